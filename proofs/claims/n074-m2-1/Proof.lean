import JvmDerived
import JvmDerived.Pilot.@@N@@Statement
import JvmDerived.Pilot.@@N@@Code
set_option linter.unusedVariables false
set_option linter.unusedSimpArgs false
namespace Jvm.Pilot.@@N@@
open Jvm Jvm.ClassFile Sem Op Lib Jvm.Free Jvm.Stand Jvm.LawKit Jvm.RoadKit Bundle Jvm.Pilot.@@N@@.Jvm.D
/-! ## my own layer: a walk read forward (Wk), where it stands (Hr), what a body promises (Con) -/
/-- from the state a the walk ends, and G holds of its end -/
def Wk (tb : Tables) (e : Env) (below : List Frame) (G : State → Outcome → Prop) (a : State) : Prop := ∃ t o, Steps tb e below a t ∧ t.status = .running ∧ Ended t below o ∧ G t o
theorem Wk.go {tb : Tables} {e : Env} {below : List Frame} {G : State → Outcome → Prop} {a b : State} (f : ∀ t, Steps tb e below b t → Steps tb e below a t) (k : Wk tb e below G b) : Wk tb e below G a := by
  obtain ⟨t, o, q, r⟩ := k
  exact ⟨t, o, f t q, r⟩
/-- where a walk stands: the library's Stand, with all that a step asks; nothing below n0 was written -/
def Hr (p : Program) (l : Launch) (e : Env) (R : Room) (s : State) (m : MethodId) (args : Array Value) (below : List Frame) (meth : Method) (c : Code) (Z : State) (own : String) (bs : ByteArray) (ml n0 : Nat) (rt : Option FieldType) (T : State) (h : Heap) (cells slots : Nat) : Prop :=
  (∃ locs, Stand p l e R s m args below meth c T locs cells slots ∧ Fr n0 locs) ∧ p.tables.exec = Jvm.exec ∧ c.code = bs ∧ c.maxLocals = ml ∧ Z.Warmed39 s.vm ∧ s.vm.findClass own = some m.cls ∧ meth.sig.returnType = rt ∧ meth.locks = false ∧ T.heap = h
/-- the end that a contract speaks of -/
def Gl (s : State) (n0 : Nat) (Q : Option Value → Heap → Prop) (C N : Nat) (t : State) (o : Outcome) : Prop := ∃ v L, o = .returned v ∧ (Q v t.heap ∧ Fr n0 L) ∧ FrameEnd s o t L C N
/-- what a body promises: started with these arguments at this heap it returns, and Q holds of the value and the heap -/
abbrev Con (l : Launch) (y : MethodName) (bytes : ByteArray) (maxL : Nat) (rt : Option FieldType) (rm : Room) (ws : List Jvm.Cond) (Z : State) (as' : Array Value) (h0 : Heap) (n0 : Nat) (Q : Option Value → Heap → Prop) : Prop :=
  MetFree l y (head1 (Jvm.Cond.code y bytes maxL rt :: ws) rm) (fun a U => a = as' ∧ Z.Warmed39 U.vm ∧ U.heap = h0) (fun _ _ _ _ _ => True) (fun _ U o U' => ∃ v L, o = .returned v ∧ (Q v U'.heap ∧ Fr n0 L) ∧ FrameEnd U o U' L rm.cells rm.slots)
theorem Con.of {l : Launch} {y : MethodName} {bytes : ByteArray} {maxL : Nat} {rt : Option FieldType} {rm : Room} {ws : List Jvm.Cond} {Z : State} {as' : Array Value} {h0 : Heap} {n0 : Nat} {Q : Option Value → Heap → Prop} (hp : plainFor y = true)
    (body : ∀ p e s m below meth c T, Hr p l e rm s m as' below meth c Z y.cls bytes maxL n0 rt T h0 0 0 → meth.name = y.name → Wk p.tables e below (Gl s n0 Q rm.cells rm.slots) (T.setTop (entryFrame m as' maxL))) : Con l y bytes maxL rt rm ws Z as' h0 n0 Q := by
  refine MetFree.of_bodySF hp hisR ?_
  intro p e s m args below meth c s₁ Bd hml0 hP hK
  obtain ⟨rfl, hZ, hh⟩ := hP
  have e0 : s₁.heap = h0 := by rw [← hh, Bd.state]; rfl
  exact body p e s m below meth c s₁ ⟨⟨[], Stand.of_body Bd, Fr.nil n0⟩, Bd.exec, Bd.bytes, hml0, hZ, findClass_of_methodNamed Bd.named, Bd.returns, Bd.notSynchronized, e0⟩ (name_of_methodNamed Bd.named Bd.method).1
/-- an array and all that it holds -/
def Arl (Z : State) (h : Heap) (a : Addr) (ty : FieldType) (us : List Value) : Prop := ∃ cl : Cell, Arr Z h a cl ty ∧ cl.slots = us.toArray ∧ us.length < 2 ^ 31
section Layer
variable {p : Program} {l : Launch} {e : Env} {R : Room} {s : State} {m : MethodId} {args : Array Value} {below : List Frame} {meth : Method} {c : Code} {Z : State} {own : String} {bs : ByteArray} {ml n0 : Nat} {rt : Option FieldType} {T : State} {h h' : Heap} {cells slots : Nat} {G : State → Outcome → Prop} {pc : Nat} {Ls : Array Slot} {st : List Value} {a0 : Array Value}
theorem Arl.ext {a : Addr} {ty : FieldType} {us : List Value} (A : Arl Z h a ty us) (E : Ext h h') : Arl Z h' a ty us := by
  obtain ⟨cl, A, r⟩ := A; exact ⟨cl, A.ext E, r⟩
theorem Arl.lt {a : Addr} {ty : FieldType} {us : List Value} (A : Arl Z h a ty us) : a < h.size := by
  obtain ⟨cl, A, r⟩ := A; exact A.lt
theorem Arl.other {a b : Addr} {ty : FieldType} {us : List Value} {sl : Nat} {v : Value} (A : Arl Z h b ty us) (W : Wr h h' a sl v) (q : b ≠ a) : Arl Z h' b ty us := by
  obtain ⟨cl, A, r⟩ := A; exact ⟨cl, A.other W q, r⟩
theorem Arl.keep {a : Addr} {ty : FieldType} {us : List Value} {ws : List Addr} (A : Arl Z h a ty us) (K : Keep h h' ws) (q : a ∉ ws) : Arl Z h' a ty us := by
  obtain ⟨cl, A, r⟩ := A; exact ⟨cl, ⟨K.2.1 a cl A.1 q, A.2⟩, r⟩
theorem Arl.set {a : Addr} {ty : FieldType} {us : List Value} {i : Nat} {v : Value} (A : Arl Z h a ty us) (W : Wr h h' a i v) : Arl Z h' a ty (us.set i v) := by
  obtain ⟨cl, A, r1, r2⟩ := A
  refine ⟨cl.setSlot i v, A.same W, ?_, by simpa using r2⟩
  simp [Cell.setSlot, r1]
theorem Arl.len {a : Addr} {ty : FieldType} {us : List Value} (A : Arl Z h a ty us) : us.length < 2 ^ 31 := by
  obtain ⟨cl, A, r1, r2⟩ := A; exact r2
theorem Arl.ne {a b : Addr} {ty : FieldType} {us : List Value} {C : String} {k : Nat} (A : Arl Z h a ty us) (E : Exa Z h b C) (wi : (Cond.instantiable C k).before a0 Z = true) : a ≠ b := by
  obtain ⟨cl, A, r⟩ := A; exact (ne_arr E wi A).symm
theorem ix_in {j : Int32} {i n : Nat} (hj : j.toInt = i) (hi : i < n) : ¬ (j < 0 ∨ n ≤ j.toNatClampNeg) ∧ j.toNatClampNeg = i := by
  have q : j.toNatClampNeg = i := by simp [Int32.toNatClampNeg, hj]
  refine ⟨?_, q⟩
  rw [q, Int32.lt_iff_toInt_lt, hj]
  simp only [Int32.reduceToInt]
  omega
theorem len32 {n : Nat} (h : n < 2 ^ 31) : n.toInt32.toInt = n := len_toInt h
/-- the branch is taken -/
def cmpT : ClassFile.Cond → Int32 → Int32 → Prop
  | .eq, x, y => x = y
  | .ne, x, y => ¬ x = y
  | .lt, x, y => x < y
  | .ge, x, y => ¬ x < y
  | .gt, x, y => y < x
  | .le, x, y => ¬ y < x
/-- the branch is not taken -/
def cmpF : ClassFile.Cond → Int32 → Int32 → Prop
  | .eq, x, y => ¬ x = y
  | .ne, x, y => x = y
  | .lt, x, y => ¬ x < y
  | .ge, x, y => x < y
  | .gt, x, y => ¬ y < x
  | .le, x, y => y < x
theorem cmp_t {cd : ClassFile.Cond} {x y : Int32} (q : cmpT cd x y) : if_icmp.holds cd x y = true := by
  cases cd
  · exact (teq q).1
  · exact (feq q).2
  · exact (tlt q).1
  · exact (flt q).2.1
  · exact (tlt q).2.2.1
  · exact (flt q).2.2.2
theorem cmp_f {cd : ClassFile.Cond} {x y : Int32} (q : cmpF cd x y) : if_icmp.holds cd x y = false := by
  cases cd
  · exact (feq q).1
  · exact (teq q).2
  · exact (flt q).1
  · exact (tlt q).2.1
  · exact (flt q).2.2.1
  · exact (tlt q).2.2.2
theorem cmp_or (cd : ClassFile.Cond) (x y : Int32) : cmpT cd x y ∨ cmpF cd x y := by
  cases cd
  · exact Classical.em _
  · exact (Classical.em _).symm
  · exact Classical.em _
  · exact (Classical.em _).symm
  · exact Classical.em _
  · exact (Classical.em _).symm
/-- a step that only moves the frame -/
theorem Wk.pu (X : Hr p l e R s m args below meth c Z own bs ml n0 rt T h cells slots) {a b : State} (f : At T m c below → p.tables.exec = Jvm.exec → c.code = bs → ∀ t, Steps p.tables e below b t → Steps p.tables e below a t) (k : Wk p.tables e below G b) : Wk p.tables e below G a := by
  obtain ⟨⟨locs, Y, N⟩, hx, hc, -⟩ := X
  exact Wk.go (f Y.here hx hc) k
/-- two roads that meet at b: it is walked once -/
theorem Wk.join {a : State} (b : State) (P : Prop) (k2 : P → Wk p.tables e below G b) (k1 : (P → Wk p.tables e below G b) → Wk p.tables e below G a) : Wk p.tables e below G a := k1 k2
theorem Wk.iload (X : Hr p l e R s m args below meth c Z own bs ml n0 rt T h cells slots) {i : Nat} {v : Int32} (hd : decode bs pc = .ok (.iload i, 2)) (pc' : Nat) (hp : pc + 2 = pc') (hl : Ls[i]? = some (.val (.int v))) (k : Wk p.tables e below G (T.setTop (mkF m pc' Ls (.int v :: st)))) : Wk p.tables e below G (T.setTop (mkF m pc Ls st)) := by
  subst hp
  exact Wk.pu X (fun hA hx hc t q => XS.iload hA hx rfl (hb hc hd) hl q) k
theorem Wk.iloadN (X : Hr p l e R s m args below meth c Z own bs ml n0 rt T h cells slots) {i : Fin 4} {v : Int32} (hd : decode bs pc = .ok (.iload_n i, 1)) (pc' : Nat) (hp : pc + 1 = pc') (hl : Ls[i.val]? = some (.val (.int v))) (k : Wk p.tables e below G (T.setTop (mkF m pc' Ls (.int v :: st)))) : Wk p.tables e below G (T.setTop (mkF m pc Ls st)) := by
  subst hp
  exact Wk.pu X (fun hA hx hc t q => XS.iloadN hA hx rfl (hb hc hd) hl q) k
theorem Wk.lload (X : Hr p l e R s m args below meth c Z own bs ml n0 rt T h cells slots) {i : Nat} {v : Int64} (hd : decode bs pc = .ok (.lload i, 2)) (pc' : Nat) (hp : pc + 2 = pc') (hl : Ls[i]? = some (.val (.long v))) (k : Wk p.tables e below G (T.setTop (mkF m pc' Ls (.long v :: st)))) : Wk p.tables e below G (T.setTop (mkF m pc Ls st)) := by
  subst hp
  exact Wk.pu X (fun hA hx hc t q => XS.lload hA hx rfl (hb hc hd) hl q) k
theorem Wk.lloadN (X : Hr p l e R s m args below meth c Z own bs ml n0 rt T h cells slots) {i : Fin 4} {v : Int64} (hd : decode bs pc = .ok (.lload_n i, 1)) (pc' : Nat) (hp : pc + 1 = pc') (hl : Ls[i.val]? = some (.val (.long v))) (k : Wk p.tables e below G (T.setTop (mkF m pc' Ls (.long v :: st)))) : Wk p.tables e below G (T.setTop (mkF m pc Ls st)) := by
  subst hp
  exact Wk.pu X (fun hA hx hc t q => XS.lloadN hA hx rfl (hb hc hd) hl q) k
theorem Wk.aload (X : Hr p l e R s m args below meth c Z own bs ml n0 rt T h cells slots) {i : Nat} {v : Value} (hd : decode bs pc = .ok (.aload i, 2)) (pc' : Nat) (hp : pc + 2 = pc') (hl : Ls[i]? = some (.val v)) (hv : v.isRef = true) (k : Wk p.tables e below G (T.setTop (mkF m pc' Ls (v :: st)))) : Wk p.tables e below G (T.setTop (mkF m pc Ls st)) := by
  subst hp
  exact Wk.pu X (fun hA hx hc t q => XS.aload hA hx rfl (hb hc hd) hl hv q) k
theorem Wk.aloadN (X : Hr p l e R s m args below meth c Z own bs ml n0 rt T h cells slots) {i : Fin 4} {v : Value} (hd : decode bs pc = .ok (.aload_n i, 1)) (pc' : Nat) (hp : pc + 1 = pc') (hl : Ls[i.val]? = some (.val v)) (hv : v.isRef = true) (k : Wk p.tables e below G (T.setTop (mkF m pc' Ls (v :: st)))) : Wk p.tables e below G (T.setTop (mkF m pc Ls st)) := by
  subst hp
  exact Wk.pu X (fun hA hx hc t q => XS.aloadN hA hx rfl (hb hc hd) hl hv q) k
theorem Wk.istore (X : Hr p l e R s m args below meth c Z own bs ml n0 rt T h cells slots) {i : Nat} {v : Int32} (hd : decode bs pc = .ok (.istore i, 2)) (pc' : Nat) (hp : pc + 2 = pc') (Ls' : Array Slot) (hl : storeLocals Ls i (.int v) = some Ls') (k : Wk p.tables e below G (T.setTop (mkF m pc' Ls' st))) : Wk p.tables e below G (T.setTop (mkF m pc Ls (.int v :: st))) := by
  subst hp
  exact Wk.pu X (fun hA hx hc t q => XS.istore hA hx rfl (hb hc hd) rfl hl q) k
theorem Wk.istoreN (X : Hr p l e R s m args below meth c Z own bs ml n0 rt T h cells slots) {i : Fin 4} {v : Int32} (hd : decode bs pc = .ok (.istore_n i, 1)) (pc' : Nat) (hp : pc + 1 = pc') (Ls' : Array Slot) (hl : storeLocals Ls i.val (.int v) = some Ls') (k : Wk p.tables e below G (T.setTop (mkF m pc' Ls' st))) : Wk p.tables e below G (T.setTop (mkF m pc Ls (.int v :: st))) := by
  subst hp
  exact Wk.pu X (fun hA hx hc t q => XS.istoreN hA hx rfl (hb hc hd) rfl hl q) k
theorem Wk.lstore (X : Hr p l e R s m args below meth c Z own bs ml n0 rt T h cells slots) {i : Nat} {v : Int64} (hd : decode bs pc = .ok (.lstore i, 2)) (pc' : Nat) (hp : pc + 2 = pc') (Ls' : Array Slot) (hl : storeLocals Ls i (.long v) = some Ls') (k : Wk p.tables e below G (T.setTop (mkF m pc' Ls' st))) : Wk p.tables e below G (T.setTop (mkF m pc Ls (.long v :: st))) := by
  subst hp
  exact Wk.pu X (fun hA hx hc t q => XS.lstore hA hx rfl (hb hc hd) rfl hl q) k
theorem Wk.lstoreN (X : Hr p l e R s m args below meth c Z own bs ml n0 rt T h cells slots) {i : Fin 4} {v : Int64} (hd : decode bs pc = .ok (.lstore_n i, 1)) (pc' : Nat) (hp : pc + 1 = pc') (Ls' : Array Slot) (hl : storeLocals Ls i.val (.long v) = some Ls') (k : Wk p.tables e below G (T.setTop (mkF m pc' Ls' st))) : Wk p.tables e below G (T.setTop (mkF m pc Ls (.long v :: st))) := by
  subst hp
  exact Wk.pu X (fun hA hx hc t q => XS.lstoreN hA hx rfl (hb hc hd) rfl hl q) k
theorem Wk.astore (X : Hr p l e R s m args below meth c Z own bs ml n0 rt T h cells slots) {i : Nat} {v : Value} (hd : decode bs pc = .ok (.astore i, 2)) (pc' : Nat) (hp : pc + 2 = pc') (Ls' : Array Slot) (hv : v.isRef = true) (hl : storeLocals Ls i v = some Ls') (k : Wk p.tables e below G (T.setTop (mkF m pc' Ls' st))) : Wk p.tables e below G (T.setTop (mkF m pc Ls (v :: st))) := by
  subst hp
  exact Wk.pu X (fun hA hx hc t q => XS.astore hA hx rfl (hb hc hd) rfl hv hl q) k
theorem Wk.astoreN (X : Hr p l e R s m args below meth c Z own bs ml n0 rt T h cells slots) {i : Fin 4} {v : Value} (hd : decode bs pc = .ok (.astore_n i, 1)) (pc' : Nat) (hp : pc + 1 = pc') (Ls' : Array Slot) (hv : v.isRef = true) (hl : storeLocals Ls i.val v = some Ls') (k : Wk p.tables e below G (T.setTop (mkF m pc' Ls' st))) : Wk p.tables e below G (T.setTop (mkF m pc Ls (v :: st))) := by
  subst hp
  exact Wk.pu X (fun hA hx hc t q => XS.astoreN hA hx rfl (hb hc hd) rfl hv hl q) k
theorem Wk.iinc (X : Hr p l e R s m args below meth c Z own bs ml n0 rt T h cells slots) {i : Nat} {cst : Int} {v : Int32} (hd : decode bs pc = .ok (.iinc i cst, 3)) (pc' : Nat) (hp : pc + 3 = pc') (Ls' : Array Slot) (hl : Ls[i]? = some (.val (.int v))) (hl' : storeLocals Ls i (.int (v + Int32.ofInt cst)) = some Ls') (k : Wk p.tables e below G (T.setTop (mkF m pc' Ls' st))) : Wk p.tables e below G (T.setTop (mkF m pc Ls st)) := by
  subst hp
  exact Wk.pu X (fun hA hx hc t q => XS.iinc hA hx rfl (hb hc hd) hl hl' q) k
theorem Wk.iconst (X : Hr p l e R s m args below meth c Z own bs ml n0 rt T h cells slots) {i : Int} (hd : decode bs pc = .ok (.iconst i, 1)) (pc' : Nat) (hp : pc + 1 = pc') (z : Int32) (hz : Int32.ofInt i = z) (k : Wk p.tables e below G (T.setTop (mkF m pc' Ls (.int z :: st)))) : Wk p.tables e below G (T.setTop (mkF m pc Ls st)) := by
  subst hp hz
  exact Wk.pu X (fun hA hx hc t q => XS.iconst hA hx rfl (hb hc hd) q) k
theorem Wk.bipush (X : Hr p l e R s m args below meth c Z own bs ml n0 rt T h cells slots) {i : Int} (hd : decode bs pc = .ok (.bipush i, 2)) (pc' : Nat) (hp : pc + 2 = pc') (z : Int32) (hz : (Int8.ofInt i).toInt32 = z) (k : Wk p.tables e below G (T.setTop (mkF m pc' Ls (.int z :: st)))) : Wk p.tables e below G (T.setTop (mkF m pc Ls st)) := by
  subst hp hz
  exact Wk.pu X (fun hA hx hc t q => XS.bipush hA hx rfl (hb hc hd) q) k
theorem Wk.sipush (X : Hr p l e R s m args below meth c Z own bs ml n0 rt T h cells slots) {i : Int} (hd : decode bs pc = .ok (.sipush i, 3)) (pc' : Nat) (hp : pc + 3 = pc') (z : Int32) (hz : (Int16.ofInt i).toInt32 = z) (k : Wk p.tables e below G (T.setTop (mkF m pc' Ls (.int z :: st)))) : Wk p.tables e below G (T.setTop (mkF m pc Ls st)) := by
  subst hp hz
  exact Wk.pu X (fun hA hx hc t q => XS.sipush hA hx rfl (hb hc hd) q) k
theorem Wk.lconst (X : Hr p l e R s m args below meth c Z own bs ml n0 rt T h cells slots) {i : Fin 2} (hd : decode bs pc = .ok (.lconst i, 1)) (pc' : Nat) (hp : pc + 1 = pc') (z : Int64) (hz : Int64.ofNat i = z) (k : Wk p.tables e below G (T.setTop (mkF m pc' Ls (.long z :: st)))) : Wk p.tables e below G (T.setTop (mkF m pc Ls st)) := by
  subst hp hz
  exact Wk.pu X (fun hA hx hc t q => XS.lconst hA hx rfl (hb hc hd) q) k
theorem Wk.aconstNull (X : Hr p l e R s m args below meth c Z own bs ml n0 rt T h cells slots) (hd : decode bs pc = .ok (.aconst_null, 1)) (pc' : Nat) (hp : pc + 1 = pc') (k : Wk p.tables e below G (T.setTop (mkF m pc' Ls (.null :: st)))) : Wk p.tables e below G (T.setTop (mkF m pc Ls st)) := by
  subst hp
  exact Wk.pu X (fun hA hx hc t q => XS.aconstNull hA hx rfl (hb hc hd) q) k
theorem Wk.iadd (X : Hr p l e R s m args below meth c Z own bs ml n0 rt T h cells slots) {x y : Int32} (hd : decode bs pc = .ok (.iadd, 1)) (pc' : Nat) (hp : pc + 1 = pc') (k : Wk p.tables e below G (T.setTop (mkF m pc' Ls (.int (x + y) :: st)))) : Wk p.tables e below G (T.setTop (mkF m pc Ls (.int y :: .int x :: st))) := by
  subst hp
  exact Wk.pu X (fun hA hx hc t q => XS.iadd hA hx rfl (hb hc hd) rfl q) k
theorem Wk.isub (X : Hr p l e R s m args below meth c Z own bs ml n0 rt T h cells slots) {x y : Int32} (hd : decode bs pc = .ok (.isub, 1)) (pc' : Nat) (hp : pc + 1 = pc') (k : Wk p.tables e below G (T.setTop (mkF m pc' Ls (.int (x - y) :: st)))) : Wk p.tables e below G (T.setTop (mkF m pc Ls (.int y :: .int x :: st))) := by
  subst hp
  exact Wk.pu X (fun hA hx hc t q => XS.isub hA hx rfl (hb hc hd) rfl q) k
theorem Wk.imul (X : Hr p l e R s m args below meth c Z own bs ml n0 rt T h cells slots) {x y : Int32} (hd : decode bs pc = .ok (.imul, 1)) (pc' : Nat) (hp : pc + 1 = pc') (k : Wk p.tables e below G (T.setTop (mkF m pc' Ls (.int (x * y) :: st)))) : Wk p.tables e below G (T.setTop (mkF m pc Ls (.int y :: .int x :: st))) := by
  subst hp
  exact Wk.pu X (fun hA hx hc t q => XS.imul hA hx rfl (hb hc hd) rfl q) k
theorem Wk.iand (X : Hr p l e R s m args below meth c Z own bs ml n0 rt T h cells slots) {x y : Int32} (hd : decode bs pc = .ok (.iand, 1)) (pc' : Nat) (hp : pc + 1 = pc') (k : Wk p.tables e below G (T.setTop (mkF m pc' Ls (.int (x &&& y) :: st)))) : Wk p.tables e below G (T.setTop (mkF m pc Ls (.int y :: .int x :: st))) := by
  subst hp
  exact Wk.pu X (fun hA hx hc t q => XS.iand hA hx rfl (hb hc hd) rfl q) k
theorem Wk.ior (X : Hr p l e R s m args below meth c Z own bs ml n0 rt T h cells slots) {x y : Int32} (hd : decode bs pc = .ok (.ior, 1)) (pc' : Nat) (hp : pc + 1 = pc') (k : Wk p.tables e below G (T.setTop (mkF m pc' Ls (.int (x ||| y) :: st)))) : Wk p.tables e below G (T.setTop (mkF m pc Ls (.int y :: .int x :: st))) := by
  subst hp
  exact Wk.pu X (fun hA hx hc t q => XS.ior hA hx rfl (hb hc hd) rfl q) k
theorem Wk.ixor (X : Hr p l e R s m args below meth c Z own bs ml n0 rt T h cells slots) {x y : Int32} (hd : decode bs pc = .ok (.ixor, 1)) (pc' : Nat) (hp : pc + 1 = pc') (k : Wk p.tables e below G (T.setTop (mkF m pc' Ls (.int (x ^^^ y) :: st)))) : Wk p.tables e below G (T.setTop (mkF m pc Ls (.int y :: .int x :: st))) := by
  subst hp
  exact Wk.pu X (fun hA hx hc t q => XS.ixor hA hx rfl (hb hc hd) rfl q) k
theorem Wk.ishl (X : Hr p l e R s m args below meth c Z own bs ml n0 rt T h cells slots) {x y : Int32} (hd : decode bs pc = .ok (.ishl, 1)) (pc' : Nat) (hp : pc + 1 = pc') (k : Wk p.tables e below G (T.setTop (mkF m pc' Ls (.int (x <<< (y &&& 31)) :: st)))) : Wk p.tables e below G (T.setTop (mkF m pc Ls (.int y :: .int x :: st))) := by
  subst hp
  exact Wk.pu X (fun hA hx hc t q => XS.ishl hA hx rfl (hb hc hd) rfl q) k
theorem Wk.ishr (X : Hr p l e R s m args below meth c Z own bs ml n0 rt T h cells slots) {x y : Int32} (hd : decode bs pc = .ok (.ishr, 1)) (pc' : Nat) (hp : pc + 1 = pc') (k : Wk p.tables e below G (T.setTop (mkF m pc' Ls (.int (x >>> (y &&& 31)) :: st)))) : Wk p.tables e below G (T.setTop (mkF m pc Ls (.int y :: .int x :: st))) := by
  subst hp
  exact Wk.pu X (fun hA hx hc t q => XS.ishr hA hx rfl (hb hc hd) rfl q) k
theorem Wk.iushr (X : Hr p l e R s m args below meth c Z own bs ml n0 rt T h cells slots) {x y : Int32} (hd : decode bs pc = .ok (.iushr, 1)) (pc' : Nat) (hp : pc + 1 = pc') (k : Wk p.tables e below G (T.setTop (mkF m pc' Ls (.int ((x.toUInt32 >>> (y &&& 31).toUInt32).toInt32) :: st)))) : Wk p.tables e below G (T.setTop (mkF m pc Ls (.int y :: .int x :: st))) := by
  subst hp
  exact Wk.pu X (fun hA hx hc t q => XS.iushr hA hx rfl (hb hc hd) rfl q) k
theorem Wk.ladd (X : Hr p l e R s m args below meth c Z own bs ml n0 rt T h cells slots) {x y : Int64} (hd : decode bs pc = .ok (.ladd, 1)) (pc' : Nat) (hp : pc + 1 = pc') (k : Wk p.tables e below G (T.setTop (mkF m pc' Ls (.long (x + y) :: st)))) : Wk p.tables e below G (T.setTop (mkF m pc Ls (.long y :: .long x :: st))) := by
  subst hp
  exact Wk.pu X (fun hA hx hc t q => XS.ladd hA hx rfl (hb hc hd) rfl q) k
theorem Wk.lsub (X : Hr p l e R s m args below meth c Z own bs ml n0 rt T h cells slots) {x y : Int64} (hd : decode bs pc = .ok (.lsub, 1)) (pc' : Nat) (hp : pc + 1 = pc') (k : Wk p.tables e below G (T.setTop (mkF m pc' Ls (.long (x - y) :: st)))) : Wk p.tables e below G (T.setTop (mkF m pc Ls (.long y :: .long x :: st))) := by
  subst hp
  exact Wk.pu X (fun hA hx hc t q => XS.lsub hA hx rfl (hb hc hd) rfl q) k
theorem Wk.lmul (X : Hr p l e R s m args below meth c Z own bs ml n0 rt T h cells slots) {x y : Int64} (hd : decode bs pc = .ok (.lmul, 1)) (pc' : Nat) (hp : pc + 1 = pc') (k : Wk p.tables e below G (T.setTop (mkF m pc' Ls (.long (x * y) :: st)))) : Wk p.tables e below G (T.setTop (mkF m pc Ls (.long y :: .long x :: st))) := by
  subst hp
  exact Wk.pu X (fun hA hx hc t q => XS.lmul hA hx rfl (hb hc hd) rfl q) k
theorem Wk.land (X : Hr p l e R s m args below meth c Z own bs ml n0 rt T h cells slots) {x y : Int64} (hd : decode bs pc = .ok (.land, 1)) (pc' : Nat) (hp : pc + 1 = pc') (k : Wk p.tables e below G (T.setTop (mkF m pc' Ls (.long (x &&& y) :: st)))) : Wk p.tables e below G (T.setTop (mkF m pc Ls (.long y :: .long x :: st))) := by
  subst hp
  exact Wk.pu X (fun hA hx hc t q => XS.land hA hx rfl (hb hc hd) rfl q) k
theorem Wk.lor (X : Hr p l e R s m args below meth c Z own bs ml n0 rt T h cells slots) {x y : Int64} (hd : decode bs pc = .ok (.lor, 1)) (pc' : Nat) (hp : pc + 1 = pc') (k : Wk p.tables e below G (T.setTop (mkF m pc' Ls (.long (x ||| y) :: st)))) : Wk p.tables e below G (T.setTop (mkF m pc Ls (.long y :: .long x :: st))) := by
  subst hp
  exact Wk.pu X (fun hA hx hc t q => XS.lor hA hx rfl (hb hc hd) rfl q) k
theorem Wk.lxor (X : Hr p l e R s m args below meth c Z own bs ml n0 rt T h cells slots) {x y : Int64} (hd : decode bs pc = .ok (.lxor, 1)) (pc' : Nat) (hp : pc + 1 = pc') (k : Wk p.tables e below G (T.setTop (mkF m pc' Ls (.long (x ^^^ y) :: st)))) : Wk p.tables e below G (T.setTop (mkF m pc Ls (.long y :: .long x :: st))) := by
  subst hp
  exact Wk.pu X (fun hA hx hc t q => XS.lxor hA hx rfl (hb hc hd) rfl q) k
theorem Wk.lshl (X : Hr p l e R s m args below meth c Z own bs ml n0 rt T h cells slots) {x : Int64} {y : Int32} (hd : decode bs pc = .ok (.lshl, 1)) (pc' : Nat) (hp : pc + 1 = pc') (k : Wk p.tables e below G (T.setTop (mkF m pc' Ls (.long (x <<< (y &&& 0x3f).toInt64) :: st)))) : Wk p.tables e below G (T.setTop (mkF m pc Ls (.int y :: .long x :: st))) := by
  subst hp
  exact Wk.pu X (fun hA hx hc t q => XS.lshl hA hx rfl (hb hc hd) rfl q) k
theorem Wk.lshr (X : Hr p l e R s m args below meth c Z own bs ml n0 rt T h cells slots) {x : Int64} {y : Int32} (hd : decode bs pc = .ok (.lshr, 1)) (pc' : Nat) (hp : pc + 1 = pc') (k : Wk p.tables e below G (T.setTop (mkF m pc' Ls (.long (x >>> (y &&& 0x3f).toInt64) :: st)))) : Wk p.tables e below G (T.setTop (mkF m pc Ls (.int y :: .long x :: st))) := by
  subst hp
  exact Wk.pu X (fun hA hx hc t q => XS.lshr hA hx rfl (hb hc hd) rfl q) k
theorem Wk.lushr (X : Hr p l e R s m args below meth c Z own bs ml n0 rt T h cells slots) {x : Int64} {y : Int32} (hd : decode bs pc = .ok (.lushr, 1)) (pc' : Nat) (hp : pc + 1 = pc') (k : Wk p.tables e below G (T.setTop (mkF m pc' Ls (.long ((x.toUInt64 >>> (y &&& 0x3f).toInt64.toUInt64).toInt64) :: st)))) : Wk p.tables e below G (T.setTop (mkF m pc Ls (.int y :: .long x :: st))) := by
  subst hp
  exact Wk.pu X (fun hA hx hc t q => XS.lushr hA hx rfl (hb hc hd) rfl q) k
theorem Wk.ineg (X : Hr p l e R s m args below meth c Z own bs ml n0 rt T h cells slots) {x : Int32} (hd : decode bs pc = .ok (.ineg, 1)) (pc' : Nat) (hp : pc + 1 = pc') (k : Wk p.tables e below G (T.setTop (mkF m pc' Ls (.int (-x) :: st)))) : Wk p.tables e below G (T.setTop (mkF m pc Ls (.int x :: st))) := by
  subst hp
  exact Wk.pu X (fun hA hx hc t q => XS.ineg hA hx rfl (hb hc hd) rfl q) k
theorem Wk.i2b (X : Hr p l e R s m args below meth c Z own bs ml n0 rt T h cells slots) {x : Int32} (hd : decode bs pc = .ok (.i2b, 1)) (pc' : Nat) (hp : pc + 1 = pc') (k : Wk p.tables e below G (T.setTop (mkF m pc' Ls (.int (x.toInt8.toInt32) :: st)))) : Wk p.tables e below G (T.setTop (mkF m pc Ls (.int x :: st))) := by
  subst hp
  exact Wk.pu X (fun hA hx hc t q => XS.i2b hA hx rfl (hb hc hd) rfl q) k
theorem Wk.i2c (X : Hr p l e R s m args below meth c Z own bs ml n0 rt T h cells slots) {x : Int32} (hd : decode bs pc = .ok (.i2c, 1)) (pc' : Nat) (hp : pc + 1 = pc') (k : Wk p.tables e below G (T.setTop (mkF m pc' Ls (.int (x.toUInt32.toUInt16.toUInt32.toInt32) :: st)))) : Wk p.tables e below G (T.setTop (mkF m pc Ls (.int x :: st))) := by
  subst hp
  exact Wk.pu X (fun hA hx hc t q => XS.i2c hA hx rfl (hb hc hd) rfl q) k
theorem Wk.i2s (X : Hr p l e R s m args below meth c Z own bs ml n0 rt T h cells slots) {x : Int32} (hd : decode bs pc = .ok (.i2s, 1)) (pc' : Nat) (hp : pc + 1 = pc') (k : Wk p.tables e below G (T.setTop (mkF m pc' Ls (.int (x.toInt16.toInt32) :: st)))) : Wk p.tables e below G (T.setTop (mkF m pc Ls (.int x :: st))) := by
  subst hp
  exact Wk.pu X (fun hA hx hc t q => XS.i2s hA hx rfl (hb hc hd) rfl q) k
theorem Wk.i2l (X : Hr p l e R s m args below meth c Z own bs ml n0 rt T h cells slots) {x : Int32} (hd : decode bs pc = .ok (.i2l, 1)) (pc' : Nat) (hp : pc + 1 = pc') (k : Wk p.tables e below G (T.setTop (mkF m pc' Ls (.long (x.toInt64) :: st)))) : Wk p.tables e below G (T.setTop (mkF m pc Ls (.int x :: st))) := by
  subst hp
  exact Wk.pu X (fun hA hx hc t q => XS.i2l hA hx rfl (hb hc hd) rfl q) k
theorem Wk.l2i (X : Hr p l e R s m args below meth c Z own bs ml n0 rt T h cells slots) {x : Int64} (hd : decode bs pc = .ok (.l2i, 1)) (pc' : Nat) (hp : pc + 1 = pc') (k : Wk p.tables e below G (T.setTop (mkF m pc' Ls (.int (x.toInt32) :: st)))) : Wk p.tables e below G (T.setTop (mkF m pc Ls (.long x :: st))) := by
  subst hp
  exact Wk.pu X (fun hA hx hc t q => XS.l2i hA hx rfl (hb hc hd) rfl q) k
theorem Wk.lneg (X : Hr p l e R s m args below meth c Z own bs ml n0 rt T h cells slots) {x : Int64} (hd : decode bs pc = .ok (.lneg, 1)) (pc' : Nat) (hp : pc + 1 = pc') (k : Wk p.tables e below G (T.setTop (mkF m pc' Ls (.long (-x) :: st)))) : Wk p.tables e below G (T.setTop (mkF m pc Ls (.long x :: st))) := by
  subst hp
  exact Wk.pu X (fun hA hx hc t q => XS.lneg hA hx rfl (hb hc hd) rfl q) k
theorem Wk.lcmp (X : Hr p l e R s m args below meth c Z own bs ml n0 rt T h cells slots) {x y : Int64} (hd : decode bs pc = .ok (.lcmp, 1)) (pc' : Nat) (hp : pc + 1 = pc') (k : Wk p.tables e below G (T.setTop (mkF m pc' Ls (.int (if x > y then 1 else if x = y then 0 else -1) :: st)))) : Wk p.tables e below G (T.setTop (mkF m pc Ls (.long y :: .long x :: st))) := by
  subst hp
  exact Wk.pu X (fun hA hx hc t q => XS.lcmp hA hx rfl (hb hc hd) rfl q) k
theorem Wk.dup (X : Hr p l e R s m args below meth c Z own bs ml n0 rt T h cells slots) {v : Value} (hd : decode bs pc = .ok (.dup, 1)) (pc' : Nat) (hp : pc + 1 = pc') (hv : v.category = 1) (k : Wk p.tables e below G (T.setTop (mkF m pc' Ls (v :: v :: st)))) : Wk p.tables e below G (T.setTop (mkF m pc Ls (v :: st))) := by
  subst hp
  exact Wk.pu X (fun hA hx hc t q => XS.dup hA hx rfl (hb hc hd) rfl hv q) k
theorem Wk.dupX1 (X : Hr p l e R s m args below meth c Z own bs ml n0 rt T h cells slots) {v w : Value} (hd : decode bs pc = .ok (.dup_x1, 1)) (pc' : Nat) (hp : pc + 1 = pc') (hv : v.category = 1) (hw : w.category = 1) (k : Wk p.tables e below G (T.setTop (mkF m pc' Ls (v :: w :: v :: st)))) : Wk p.tables e below G (T.setTop (mkF m pc Ls (v :: w :: st))) := by
  subst hp
  exact Wk.pu X (fun hA hx hc t q => XS.dupX1 hA hx rfl (hb hc hd) rfl hv hw q) k
theorem Wk.pop (X : Hr p l e R s m args below meth c Z own bs ml n0 rt T h cells slots) {v : Value} (hd : decode bs pc = .ok (.pop, 1)) (pc' : Nat) (hp : pc + 1 = pc') (hv : v.category = 1) (k : Wk p.tables e below G (T.setTop (mkF m pc' Ls st))) : Wk p.tables e below G (T.setTop (mkF m pc Ls (v :: st))) := by
  subst hp
  exact Wk.pu X (fun hA hx hc t q => XS.pop hA hx rfl (hb hc hd) rfl hv q) k
theorem Wk.irem (X : Hr p l e R s m args below meth c Z own bs ml n0 rt T h cells slots) {x y : Int32} (hd : decode bs pc = .ok (.irem, 1)) (pc' : Nat) (hp : pc + 1 = pc') (hy : y ≠ 0) (k : Wk p.tables e below G (T.setTop (mkF m pc' Ls (.int (x % y) :: st)))) : Wk p.tables e below G (T.setTop (mkF m pc Ls (.int y :: .int x :: st))) := by
  subst hp
  obtain ⟨⟨locs, Y, N⟩, hx, hc, -⟩ := X
  exact Wk.go (fun t q => iremM (g := mkF m pc Ls (.int y :: .int x :: st)) Y hx rfl (hb hc hd) rfl hy q) k
theorem Wk.idiv (X : Hr p l e R s m args below meth c Z own bs ml n0 rt T h cells slots) {x y : Int32} (hd : decode bs pc = .ok (.idiv, 1)) (pc' : Nat) (hp : pc + 1 = pc') (hy : y ≠ 0) (k : Wk p.tables e below G (T.setTop (mkF m pc' Ls (.int (x / y) :: st)))) : Wk p.tables e below G (T.setTop (mkF m pc Ls (.int y :: .int x :: st))) := by
  subst hp
  exact Wk.pu X (fun hA hx hc t q => XS.idiv hA hx rfl (hb hc hd) rfl hy q) k
theorem Wk.goto (X : Hr p l e R s m args below meth c Z own bs ml n0 rt T h cells slots) {o : Int} (hd : decode bs pc = .ok (.goto o, 3)) (pc' : Nat) (hp : 0 ≤ (pc : Int) + o ∧ ((pc : Int) + o).toNat = pc') (k : Wk p.tables e below G (T.setTop (mkF m pc' Ls st))) : Wk p.tables e below G (T.setTop (mkF m pc Ls st)) :=
  Wk.pu X (fun hA hx hc t q => XS.goto hA hx rfl (pc0 := pc) (pc' := pc') rfl (hb hc hd) hp.1 hp.2 q) k
theorem Wk.icmpT (X : Hr p l e R s m args below meth c Z own bs ml n0 rt T h cells slots) {cd : ClassFile.Cond} {o : Int} {x y : Int32} (hd : decode bs pc = .ok (.if_icmp cd o, 3)) (pt : Nat) (ht : 0 ≤ (pc : Int) + o ∧ ((pc : Int) + o).toNat = pt) (q : cmpT cd x y) (k : Wk p.tables e below G (T.setTop (mkF m pt Ls st))) : Wk p.tables e below G (T.setTop (mkF m pc Ls (.int y :: .int x :: st))) :=
  Wk.pu X (fun hA hx hc t z => XS.icmpYes hA hx rfl (pc0 := pc) (pc' := pt) rfl (hb hc hd) rfl (cmp_t q) ht.1 ht.2 z) k
theorem Wk.icmpF (X : Hr p l e R s m args below meth c Z own bs ml n0 rt T h cells slots) {cd : ClassFile.Cond} {o : Int} {x y : Int32} (hd : decode bs pc = .ok (.if_icmp cd o, 3)) (pf : Nat) (hf : pc + 3 = pf) (q : cmpF cd x y) (k : Wk p.tables e below G (T.setTop (mkF m pf Ls st))) : Wk p.tables e below G (T.setTop (mkF m pc Ls (.int y :: .int x :: st))) := by
  subst hf
  exact Wk.pu X (fun hA hx hc t z => XS.icmpNo hA hx rfl (hb hc hd) rfl (cmp_f q) z) k
theorem Wk.icmp (X : Hr p l e R s m args below meth c Z own bs ml n0 rt T h cells slots) {cd : ClassFile.Cond} {o : Int} {x y : Int32} (hd : decode bs pc = .ok (.if_icmp cd o, 3)) (pt pf : Nat) (ht : 0 ≤ (pc : Int) + o ∧ ((pc : Int) + o).toNat = pt) (hf : pc + 3 = pf) (kt : cmpT cd x y → Wk p.tables e below G (T.setTop (mkF m pt Ls st))) (kf : cmpF cd x y → Wk p.tables e below G (T.setTop (mkF m pf Ls st))) : Wk p.tables e below G (T.setTop (mkF m pc Ls (.int y :: .int x :: st))) :=
  (cmp_or cd x y).elim (fun q => Wk.icmpT X hd pt ht q (kt q)) (fun q => Wk.icmpF X hd pf hf q (kf q))
theorem Wk.ifcT (X : Hr p l e R s m args below meth c Z own bs ml n0 rt T h cells slots) {cd : ClassFile.Cond} {o : Int} {x : Int32} (hd : decode bs pc = .ok (.ifCond cd o, 3)) (pt : Nat) (ht : 0 ≤ (pc : Int) + o ∧ ((pc : Int) + o).toNat = pt) (q : cmpT cd x 0) (k : Wk p.tables e below G (T.setTop (mkF m pt Ls st))) : Wk p.tables e below G (T.setTop (mkF m pc Ls (.int x :: st))) :=
  Wk.pu X (fun hA hx hc t z => XS.ifYes hA hx rfl (pc0 := pc) (pc' := pt) rfl (hb hc hd) rfl ((if0 _ _).trans (cmp_t q)) ht.1 ht.2 z) k
theorem Wk.ifcF (X : Hr p l e R s m args below meth c Z own bs ml n0 rt T h cells slots) {cd : ClassFile.Cond} {o : Int} {x : Int32} (hd : decode bs pc = .ok (.ifCond cd o, 3)) (pf : Nat) (hf : pc + 3 = pf) (q : cmpF cd x 0) (k : Wk p.tables e below G (T.setTop (mkF m pf Ls st))) : Wk p.tables e below G (T.setTop (mkF m pc Ls (.int x :: st))) := by
  subst hf
  exact Wk.pu X (fun hA hx hc t z => XS.ifNo hA hx rfl (hb hc hd) rfl ((if0 _ _).trans (cmp_f q)) z) k
theorem Wk.ifc (X : Hr p l e R s m args below meth c Z own bs ml n0 rt T h cells slots) {cd : ClassFile.Cond} {o : Int} {x : Int32} (hd : decode bs pc = .ok (.ifCond cd o, 3)) (pt pf : Nat) (ht : 0 ≤ (pc : Int) + o ∧ ((pc : Int) + o).toNat = pt) (hf : pc + 3 = pf) (kt : cmpT cd x 0 → Wk p.tables e below G (T.setTop (mkF m pt Ls st))) (kf : cmpF cd x 0 → Wk p.tables e below G (T.setTop (mkF m pf Ls st))) : Wk p.tables e below G (T.setTop (mkF m pc Ls (.int x :: st))) :=
  (cmp_or cd x 0).elim (fun q => Wk.ifcT X hd pt ht q (kt q)) (fun q => Wk.ifcF X hd pf hf q (kf q))
theorem Wk.ifnullT (X : Hr p l e R s m args below meth c Z own bs ml n0 rt T h cells slots) {o : Int} (hd : decode bs pc = .ok (.ifnull o, 3)) (pt : Nat) (ht : 0 ≤ (pc : Int) + o ∧ ((pc : Int) + o).toNat = pt) (k : Wk p.tables e below G (T.setTop (mkF m pt Ls st))) : Wk p.tables e below G (T.setTop (mkF m pc Ls (.null :: st))) :=
  Wk.pu X (fun hA hx hc t z => XS.ifnullYes hA hx rfl (pc0 := pc) (pc' := pt) rfl (hb hc hd) rfl ht.1 ht.2 z) k
theorem Wk.ifnullF (X : Hr p l e R s m args below meth c Z own bs ml n0 rt T h cells slots) {o : Int} {b : Addr} (hd : decode bs pc = .ok (.ifnull o, 3)) (pf : Nat) (hf : pc + 3 = pf) (k : Wk p.tables e below G (T.setTop (mkF m pf Ls st))) : Wk p.tables e below G (T.setTop (mkF m pc Ls (.ref b :: st))) := by
  subst hf
  exact Wk.pu X (fun hA hx hc t z => XS.ifnullNo hA hx rfl (hb hc hd) rfl z) k
theorem Wk.ifnonnullT (X : Hr p l e R s m args below meth c Z own bs ml n0 rt T h cells slots) {o : Int} {b : Addr} (hd : decode bs pc = .ok (.ifnonnull o, 3)) (pt : Nat) (ht : 0 ≤ (pc : Int) + o ∧ ((pc : Int) + o).toNat = pt) (k : Wk p.tables e below G (T.setTop (mkF m pt Ls st))) : Wk p.tables e below G (T.setTop (mkF m pc Ls (.ref b :: st))) :=
  Wk.pu X (fun hA hx hc t z => XS.ifnonnullYes hA hx rfl (pc0 := pc) (pc' := pt) rfl (hb hc hd) rfl ht.1 ht.2 z) k
theorem Wk.ifnonnullF (X : Hr p l e R s m args below meth c Z own bs ml n0 rt T h cells slots) {o : Int} (hd : decode bs pc = .ok (.ifnonnull o, 3)) (pf : Nat) (hf : pc + 3 = pf) (k : Wk p.tables e below G (T.setTop (mkF m pf Ls st))) : Wk p.tables e below G (T.setTop (mkF m pc Ls (.null :: st))) := by
  subst hf
  exact Wk.pu X (fun hA hx hc t z => XS.ifnonnullNo hA hx rfl (hb hc hd) rfl z) k
theorem Wk.acmpT (X : Hr p l e R s m args below meth c Z own bs ml n0 rt T h cells slots) {cd : ClassFile.ACond} {o : Int} {a b : Addr} (hd : decode bs pc = .ok (.if_acmp cd o, 3)) (pt : Nat) (ht : 0 ≤ (pc : Int) + o ∧ ((pc : Int) + o).toNat = pt) (q : if_acmp.holds cd (some a) (some b) = true) (k : Wk p.tables e below G (T.setTop (mkF m pt Ls st))) : Wk p.tables e below G (T.setTop (mkF m pc Ls (.ref b :: .ref a :: st))) :=
  Wk.pu X (fun hA hx hc t z => XS.acmpYes hA hx rfl (pc0 := pc) (pc' := pt) rfl (hb hc hd) rfl q ht.1 ht.2 z) k
theorem Wk.acmpF (X : Hr p l e R s m args below meth c Z own bs ml n0 rt T h cells slots) {cd : ClassFile.ACond} {o : Int} {a b : Addr} (hd : decode bs pc = .ok (.if_acmp cd o, 3)) (pf : Nat) (hf : pc + 3 = pf) (q : if_acmp.holds cd (some a) (some b) = false) (k : Wk p.tables e below G (T.setTop (mkF m pf Ls st))) : Wk p.tables e below G (T.setTop (mkF m pc Ls (.ref b :: .ref a :: st))) := by
  subst hf
  exact Wk.pu X (fun hA hx hc t z => XS.acmpNo hA hx rfl (hb hc hd) rfl q z) k
theorem Wk.ldcInt (X : Hr p l e R s m args below meth c Z own bs ml n0 rt T h cells slots) {i : Nat} {v : Int32} (w : (Cond.constant own i v).before a0 Z = true) (hd : decode bs pc = .ok (.ldc i, 2)) (pc' : Nat) (hp : pc + 2 = pc') (k : Wk p.tables e below G (T.setTop (mkF m pc' Ls (.int v :: st)))) : Wk p.tables e below G (T.setTop (mkF m pc Ls st)) := by
  subst hp
  obtain ⟨⟨locs, Y, N⟩, hx, hc, -, hZ, ho, -⟩ := X
  exact Wk.go (fun t q => Y.ldcInt hx ho (mvT hZ w) (g := mkF m pc Ls st) rfl (hb hc hd) t q) k
theorem Wk.ldc2Long (X : Hr p l e R s m args below meth c Z own bs ml n0 rt T h cells slots) {i : Nat} {v : Int64} (w : (Cond.constantLong own i v).before a0 Z = true) (hd : decode bs pc = .ok (.ldc2_w i, 3)) (pc' : Nat) (hp : pc + 3 = pc') (k : Wk p.tables e below G (T.setTop (mkF m pc' Ls (.long v :: st)))) : Wk p.tables e below G (T.setTop (mkF m pc Ls st)) := by
  subst hp
  obtain ⟨⟨locs, Y, N⟩, hx, hc, -, hZ, ho, -⟩ := X
  exact Wk.go (fun t q => Y.ldc2Long hx ho (mvT hZ w) (g := mkF m pc Ls st) rfl (hb hc hd) t q) k
theorem Arl.at {a : Addr} {ty : FieldType} {us : List Value} {j : Int32} {i : Nat} {v : Value} (A : Arl Z h a ty us) (hj : j.toInt = i) (hv : us[i]? = some v) : ∃ cl : Cell, Arr Z h a cl ty ∧ ¬ (j < 0 ∨ cl.slots.size ≤ j.toNatClampNeg) ∧ cl.slots[j.toNatClampNeg]? = some v := by
  obtain ⟨cl, A, r1, r2⟩ := A
  have hi : i < us.length := (List.getElem?_eq_some_iff.mp hv).1
  have q := ix_in (n := cl.slots.size) hj (by rw [r1]; simpa using hi)
  exact ⟨cl, A, q.1, by rw [q.2, r1]; simpa using hv⟩
theorem Wk.iaload (X : Hr p l e R s m args below meth c Z own bs ml n0 rt T h cells slots) {a : Addr} {us : List Value} {j : Int32} {v : Value} (A : Arl Z h a .int us) (i : Nat) (hj : j.toInt = i) (hv : us[i]? = some v) (hd : decode bs pc = .ok (.iaload, 1)) (pc' : Nat) (hp : pc + 1 = pc') (k : Wk p.tables e below G (T.setTop (mkF m pc' Ls (v :: st)))) : Wk p.tables e below G (T.setTop (mkF m pc Ls (.int j :: .ref a :: st))) := by
  subst hp
  obtain ⟨⟨locs, Y, N⟩, hx, hc, -, hZ, ho, -, -, eT⟩ := X
  obtain ⟨cl, A, q1, q2⟩ := A.at hj hv
  exact Wk.go (fun t q => Y.iaload hx (by rw [eT]; exact A.1) (State.isArrayOf_alike hZ.alike A.2.1) A.2.2 q1 q2 (g := mkF m pc Ls (.int j :: .ref a :: st)) rfl rfl (hb hc hd) t q) k
theorem Wk.laload (X : Hr p l e R s m args below meth c Z own bs ml n0 rt T h cells slots) {a : Addr} {us : List Value} {j : Int32} {v : Value} (A : Arl Z h a .long us) (i : Nat) (hj : j.toInt = i) (hv : us[i]? = some v) (hd : decode bs pc = .ok (.laload, 1)) (pc' : Nat) (hp : pc + 1 = pc') (k : Wk p.tables e below G (T.setTop (mkF m pc' Ls (v :: st)))) : Wk p.tables e below G (T.setTop (mkF m pc Ls (.int j :: .ref a :: st))) := by
  subst hp
  obtain ⟨⟨locs, Y, N⟩, hx, hc, -, hZ, ho, -, -, eT⟩ := X
  obtain ⟨cl, A, q1, q2⟩ := A.at hj hv
  exact Wk.go (fun t q => Y.laload hx (by rw [eT]; exact A.1) (State.isArrayOf_alike hZ.alike A.2.1) A.2.2 q1 q2 (g := mkF m pc Ls (.int j :: .ref a :: st)) rfl rfl (hb hc hd) t q) k
theorem Wk.baload (X : Hr p l e R s m args below meth c Z own bs ml n0 rt T h cells slots) {a : Addr} {us : List Value} {j : Int32} {v : Value} (A : Arl Z h a .byte us) (i : Nat) (hj : j.toInt = i) (hv : us[i]? = some v) (hd : decode bs pc = .ok (.baload, 1)) (pc' : Nat) (hp : pc + 1 = pc') (k : Wk p.tables e below G (T.setTop (mkF m pc' Ls (v :: st)))) : Wk p.tables e below G (T.setTop (mkF m pc Ls (.int j :: .ref a :: st))) := by
  subst hp
  obtain ⟨⟨locs, Y, N⟩, hx, hc, -, hZ, ho, -, -, eT⟩ := X
  obtain ⟨cl, A, q1, q2⟩ := A.at hj hv
  exact Wk.go (fun t q => Y.baloadBytes hx (by rw [eT]; exact A.1) (State.isArrayOf_alike hZ.alike A.2.1) A.2.2 q1 q2 (g := mkF m pc Ls (.int j :: .ref a :: st)) rfl rfl (hb hc hd) t q) k
theorem Wk.arraylength (X : Hr p l e R s m args below meth c Z own bs ml n0 rt T h cells slots) {a : Addr} {ty : FieldType} {us : List Value} (A : Arl Z h a ty us) (hd : decode bs pc = .ok (.arraylength, 1)) (pc' : Nat) (hp : pc + 1 = pc') (z : Int32) (hz : us.length.toInt32 = z) (k : Wk p.tables e below G (T.setTop (mkF m pc' Ls (.int z :: st)))) : Wk p.tables e below G (T.setTop (mkF m pc Ls (.ref a :: st))) := by
  subst hp hz
  obtain ⟨⟨locs, Y, N⟩, hx, hc, -, hZ, ho, -, -, eT⟩ := X
  obtain ⟨cl, A, r1, r2⟩ := A
  have hs : cl.slots.size = us.length := by rw [r1]; simp
  rw [← hs] at k
  exact Wk.go (fun t q => Y.arraylength hx (by rw [eT]; exact A.1) (State.isArrayOf_alike hZ.alike A.2.1) (g := mkF m pc Ls (.ref a :: st)) rfl rfl (hb hc hd) t q) k
theorem Wk.getfield (X : Hr p l e R s m args below meth c Z own bs ml n0 rt T h cells slots) {i : Nat} {R0 O n d : String} {a : Addr} {v : Value} (w : (Cond.fieldLink own i R0 n d).before a0 Z = true) (via : Via Z R0 O n d) (F : Fld Z h a O n d v) (hd : decode bs pc = .ok (.getfield i, 3)) (pc' : Nat) (hp : pc + 3 = pc')
    (k : ∀ T', Hr p l e R s m args below meth c Z own bs ml n0 rt T' h cells slots → Wk p.tables e below G (T'.setTop (mkF m pc' Ls (v :: st)))) : Wk p.tables e below G (T.setTop (mkF m pc Ls (.ref a :: st))) := by
  subst hp
  obtain ⟨⟨locs, Y, N⟩, hx, hc, hm, hZ, ho, hr, hl, eT⟩ := X
  obtain ⟨T', Y', e', q⟩ := getF Y hx hZ ho (host := "") (Or.inl w) via eT F (g := mkF m pc Ls (.ref a :: st)) rfl rfl (hb hc hd)
  exact Wk.go q (k T' ⟨⟨locs, Y', N⟩, hx, hc, hm, hZ, ho, hr, hl, e'⟩)
theorem Wk.putfield (X : Hr p l e R s m args below meth c Z own bs ml n0 rt T h cells slots) {i kk : Nat} {R0 O n d C : String} {ty : FieldType} {a : Addr} {v old : Value} (w : (Cond.fieldLink own i R0 n d).before a0 Z = true) (via : Via Z R0 O n d) (F : Fld Z h a O n d old) (E : Exa Z h a C) (L : (Cond.lays C O n d).before a0 Z = true ∨ ((Cond.laysFinal C O n d).before a0 Z = true ∧ own = O ∧ meth.name = "<init>")) (wi : (Cond.instantiable C kk).before a0 Z = true)
    (hty : parseFieldDescriptor d = some ty) (hn : narrow ty v = v) (hf : fits ty v = true) (hnew : n0 ≤ a) (hd : decode bs pc = .ok (.putfield i, 3)) (pc' : Nat) (hp : pc + 3 = pc')
    (k : ∀ T' h', Hr p l e R s m args below meth c Z own bs ml n0 rt T' h' cells slots → Wr h h' a (Jvm.RoadKit.slotOf Z O n d) v → Wk p.tables e below G (T'.setTop (mkF m pc' Ls st))) : Wk p.tables e below G (T.setTop (mkF m pc Ls (v :: .ref a :: st))) := by
  subst hp
  obtain ⟨⟨locs, Y, N⟩, hx, hc, hm, hZ, ho, hr, hl, eT⟩ := X
  obtain ⟨T', h', Y', e', W, q⟩ := putF Y hx hZ ho (host := "") (Or.inl w) via eT F E L wi hty hn hf (g := mkF m pc Ls (v :: .ref a :: st)) rfl rfl (hb hc hd)
  exact Wk.go q (k T' h' ⟨⟨_, Y', Fr.snoc Y' N hnew⟩, hx, hc, hm, hZ, ho, hr, hl, e'⟩ W)
theorem Wk.getstatic (X : Hr p l e R s m args below meth c Z own bs ml n0 rt T h cells slots) {i : Nat} {R0 O n d : String} {v : Value} (w : (Cond.fieldLink own i R0 n d).before a0 Z = true) (via : Via Z R0 O n d) (F : Sta Z h O n d v) (hd : decode bs pc = .ok (.getstatic i, 3)) (pc' : Nat) (hp : pc + 3 = pc')
    (k : ∀ T', Hr p l e R s m args below meth c Z own bs ml n0 rt T' h cells slots → Wk p.tables e below G (T'.setTop (mkF m pc' Ls (v :: st)))) : Wk p.tables e below G (T.setTop (mkF m pc Ls st)) := by
  subst hp
  obtain ⟨⟨locs, Y, N⟩, hx, hc, hm, hZ, ho, hr, hl, eT⟩ := X
  obtain ⟨T', Y', e', q⟩ := getS Y hx hZ (host := "") ho w via eT F (g := mkF m pc Ls st) rfl (hb hc hd)
  exact Wk.go q (k T' ⟨⟨locs, Y', N⟩, hx, hc, hm, hZ, ho, hr, hl, e'⟩)
theorem Wk.new (X : Hr p l e R s m args below meth c Z own bs ml n0 rt T h cells slots) {i n : Nat} {C : String} (w : (Cond.classLink own i C).before a0 Z = true) (wi : (Cond.instantiable C n).before a0 Z = true) (wz : (Cond.initialized C).before a0 Z = true) (hd : decode bs pc = .ok (.new i, 3)) (pc' : Nat) (hp : pc + 3 = pc') (hce : cells + 1 ≤ R.cells) (hsl : slots + n ≤ R.slots)
    (k : ∀ T' h' a, a = h.size → Hr p l e R s m args below meth c Z own bs ml n0 rt T' h' (cells + 1) (slots + n) → Ext h h' → Exa Z h' a C → (∀ {O nm d : String} {ty : FieldType}, Laid Z a0 C O nm d → parseFieldDescriptor d = some ty → Fld Z h' a O nm d (defaultValue ty)) → Wk p.tables e below G (T'.setTop (mkF m pc' Ls (.ref a :: st)))) : Wk p.tables e below G (T.setTop (mkF m pc Ls st)) := by
  subst hp
  obtain ⟨⟨locs, Y, N⟩, hx, hc, hm, hZ, ho, hr, hl, eT⟩ := X
  obtain ⟨T', h', Y', e', E, A, D, -, q⟩ := newO Y hx hZ ho w wi wz eT (g := mkF m pc Ls st) rfl (hb hc hd) hce hsl
  exact Wk.go q (k T' h' _ rfl ⟨⟨_, Y', N⟩, hx, hc, hm, hZ, ho, hr, hl, e'⟩ E A D)
theorem Wk.newarray (X : Hr p l e R s m args below meth c Z own bs ml n0 rt T h cells slots) {aty : ArrayType} {n : Int32} (w : (Cond.arrayClass (newarray.typeOf aty)).before a0 Z = true) (hd : decode bs pc = .ok (.newarray aty, 2)) (pc' : Nat) (hp : pc + 2 = pc') (i : Nat) (hn : n.toInt = i) (cap : Nat) (hcap : i ≤ cap) (hbig : cap * 8 ≤ 536870912) (hce : cells + 1 ≤ R.cells) (hsl : slots + cap ≤ R.slots)
    (k : ∀ T' h' a, a = h.size → Hr p l e R s m args below meth c Z own bs ml n0 rt T' h' (cells + 1) (slots + cap) → Ext h h' → Arl Z h' a (newarray.typeOf aty) (List.replicate i (defaultValue (newarray.typeOf aty))) → Wk p.tables e below G (T'.setTop (mkF m pc' Ls (.ref a :: st)))) : Wk p.tables e below G (T.setTop (mkF m pc Ls (.int n :: st))) := by
  subst hp
  obtain ⟨⟨locs, Y, N⟩, hx, hc, hm, hZ, ho, hr, hl, eT⟩ := X
  have hi : n.toNatClampNeg = i := by simp [Int32.toNatClampNeg, hn]
  have h0 : ¬ n < 0 := by rw [Int32.lt_iff_toInt_lt, hn]; simp only [Int32.reduceToInt]; omega
  obtain ⟨T', h', cA, Y', e', E, A, q⟩ := newP Y hx hZ w eT (g := mkF m pc Ls (.int n :: st)) rfl (hb hc hd) rfl h0 (cap := cap) (by rw [hi]; exact hcap) hbig hce hsl
  refine Wk.go q (k T' h' _ rfl ⟨⟨_, Y', N⟩, hx, hc, hm, hZ, ho, hr, hl, e'⟩ E ⟨_, A, ?_, by simp; omega⟩)
  simp [newA, hi]
theorem Wk.iastore (X : Hr p l e R s m args below meth c Z own bs ml n0 rt T h cells slots) {a : Addr} {us : List Value} {j v : Int32} (A : Arl Z h a .int us) (hnew : n0 ≤ a) (i : Nat) (hj : j.toInt = i) (hi : i < us.length) (hd : decode bs pc = .ok (.iastore, 1)) (pc' : Nat) (hp : pc + 1 = pc')
    (k : ∀ T' h', Hr p l e R s m args below meth c Z own bs ml n0 rt T' h' cells slots → Wr h h' a i (.int v) → Wk p.tables e below G (T'.setTop (mkF m pc' Ls st))) : Wk p.tables e below G (T.setTop (mkF m pc Ls (.int v :: .int j :: .ref a :: st))) := by
  subst hp
  obtain ⟨⟨locs, Y, N⟩, hx, hc, hm, hZ, ho, hr, hl, eT⟩ := X
  obtain ⟨cl, A, q1, -⟩ := A.at hj (List.getElem?_eq_getElem hi)
  obtain ⟨T', h', Y', e', W, q⟩ := stI Y hx hZ eT A q1 (g := mkF m pc Ls (.int v :: .int j :: .ref a :: st)) rfl rfl (hb hc hd)
  rw [(ix_in hj hi).2] at W
  exact Wk.go q (k T' h' ⟨⟨_, Y', Fr.snoc Y' N hnew⟩, hx, hc, hm, hZ, ho, hr, hl, e'⟩ W)
theorem Wk.lastore (X : Hr p l e R s m args below meth c Z own bs ml n0 rt T h cells slots) {a : Addr} {us : List Value} {j : Int32} {v : Int64} (A : Arl Z h a .long us) (hnew : n0 ≤ a) (i : Nat) (hj : j.toInt = i) (hi : i < us.length) (hd : decode bs pc = .ok (.lastore, 1)) (pc' : Nat) (hp : pc + 1 = pc')
    (k : ∀ T' h', Hr p l e R s m args below meth c Z own bs ml n0 rt T' h' cells slots → Wr h h' a i (.long v) → Wk p.tables e below G (T'.setTop (mkF m pc' Ls st))) : Wk p.tables e below G (T.setTop (mkF m pc Ls (.long v :: .int j :: .ref a :: st))) := by
  subst hp
  obtain ⟨⟨locs, Y, N⟩, hx, hc, hm, hZ, ho, hr, hl, eT⟩ := X
  obtain ⟨cl, A, q1, -⟩ := A.at hj (List.getElem?_eq_getElem hi)
  obtain ⟨T', h', Y', e', W, q⟩ := stJ Y hx hZ eT A q1 (g := mkF m pc Ls (.long v :: .int j :: .ref a :: st)) rfl rfl (hb hc hd)
  rw [(ix_in hj hi).2] at W
  exact Wk.go q (k T' h' ⟨⟨_, Y', Fr.snoc Y' N hnew⟩, hx, hc, hm, hZ, ho, hr, hl, e'⟩ W)
theorem Wk.bastore (X : Hr p l e R s m args below meth c Z own bs ml n0 rt T h cells slots) {a : Addr} {us : List Value} {j v : Int32} (A : Arl Z h a .byte us) (hnew : n0 ≤ a) (i : Nat) (hj : j.toInt = i) (hi : i < us.length) (hd : decode bs pc = .ok (.bastore, 1)) (pc' : Nat) (hp : pc + 1 = pc')
    (k : ∀ T' h', Hr p l e R s m args below meth c Z own bs ml n0 rt T' h' cells slots → Wr h h' a i (.int v.toInt8.toInt32) → Wk p.tables e below G (T'.setTop (mkF m pc' Ls st))) : Wk p.tables e below G (T.setTop (mkF m pc Ls (.int v :: .int j :: .ref a :: st))) := by
  subst hp
  obtain ⟨⟨locs, Y, N⟩, hx, hc, hm, hZ, ho, hr, hl, eT⟩ := X
  obtain ⟨cl, A, q1, -⟩ := A.at hj (List.getElem?_eq_getElem hi)
  obtain ⟨T', h', Y', e', W, q⟩ := stB Y hx hZ eT A q1 (g := mkF m pc Ls (.int v :: .int j :: .ref a :: st)) rfl rfl (hb hc hd)
  rw [(ix_in hj hi).2] at W
  exact Wk.go q (k T' h' ⟨⟨_, Y', Fr.snoc Y' N hnew⟩, hx, hc, hm, hZ, ho, hr, hl, e'⟩ W)
theorem Wk.initO (X : Hr p l e R s m args below meth c Z own bs ml n0 rt T h cells slots) {i : Nat} {a : Addr} (w1 : (Cond.methodLink own i Lib.objectInit).before a0 Z = true) (w2 : (Cond.instanceMethod Lib.objectInit).before a0 Z = true) (w3 : (Cond.code Lib.objectInit object_method_1_code 1 none).before a0 Z = true) (hls : Ls.size = ml) (hd : decode bs pc = .ok (.invokespecial i, 3)) (pc' : Nat) (hp : pc + 3 = pc') (hf : 1 ≤ R.frames) (W : Nat) (hW : (st.map fun v => v.category).sum ≤ W) (hlo : W + 12 ≤ R.locals)
    (k : ∀ T', Hr p l e R s m args below meth c Z own bs ml n0 rt T' h cells slots → Wk p.tables e below G (T'.setTop (mkF m pc' Ls st))) : Wk p.tables e below G (T.setTop (mkF m pc Ls (.ref a :: st))) := by
  subst hp
  obtain ⟨⟨locs, Y, N⟩, hx, hc, hm, hZ, ho, hr, hl, eT⟩ := X
  obtain ⟨T', Y', e', q⟩ := Jvm.RoadKit.initO Y hx hZ ho w1 w2 w3 eT (g := mkF m pc Ls (.ref a :: st)) rfl (by rw [hm]; exact hls) rfl (hb hc hd) hf (W := W) (by show 2 * 0 + _ ≤ _; omega) hlo
  exact Wk.go q (k T' ⟨⟨locs, Y', N⟩, hx, hc, hm, hZ, ho, hr, hl, e'⟩)
theorem Wk.callS (X : Hr p l e R s m args below meth c Z own bs ml n0 rt T h cells slots) {i : Nat} {y : MethodName} {bytes : ByteArray} {maxL : Nat} {rt' : Option FieldType} {rm : Room} {as' : Array Value} {Q : Option Value → Heap → Prop} (w1 : (Cond.methodLink own i y).before a0 Z = true) (w2 : (Cond.static y).before a0 Z = true) (w3 : (Cond.initialized y.cls).before a0 Z = true) (w4 : (Cond.code y bytes maxL rt').before a0 Z = true) (hM : Con l y bytes maxL rt' rm [] Z as' h n0 Q)
    (hy : y.cls ≠ "java/lang/invoke/MethodHandle" ∧ y.cls ≠ "java/lang/invoke/VarHandle") {ps : List FieldType} {r : Option FieldType} (hds : parseMethodDescriptor y.desc = some ⟨ps, r⟩) (argsL rest : List Value) (hlen : argsL.length = ps.length) (hst : st = argsL.reverse ++ rest) (has : argsL.toArray = as') (hls : Ls.size = ml) (W : Nat) (hW : (rest.map fun v => v.category).sum ≤ W) (hfr : rm.frames + 1 ≤ R.frames) (hlo : W + (maxL + 11) + rm.locals ≤ R.locals) (hce : cells + rm.cells ≤ R.cells) (hsl : slots + rm.slots ≤ R.slots) (cells' slots' : Nat) (hc' : cells + rm.cells = cells') (hs' : slots + rm.slots = slots')
    (hd : decode bs pc = .ok (.invokestatic i, 3)) (pc' : Nat) (hp : pc + 3 = pc')
    (k : ∀ v T' h', Hr p l e R s m args below meth c Z own bs ml n0 rt T' h' cells' slots' → Q v h' → Wk p.tables e below G (T'.setTop (mkF m pc' Ls (v.toList ++ rest)))) : Wk p.tables e below G (T.setTop (mkF m pc Ls st)) := by
  subst hp hc' hs' hst has
  obtain ⟨⟨locs, Y, N⟩, hx, hc, hm, hZ, ho, hr, hl, eT⟩ := X
  obtain ⟨v, _, ⟨T1, L1, k1, n1⟩, -, Y1, ⟨Lc, hQ, l1, y1, z1⟩, q⟩ := Jvm.LawKit.callS Y hx (y := y) ho (mvT hZ w1) (mvT hZ w2) (mvT hZ w3) (mvT hZ w4) hy (backOf (W := W) (Q := fun v h L => Q v h ∧ Fr n0 L) hM hZ w4 w3 hfr hlo) (g := mkF m pc Ls (argsL.reverse ++ rest)) rfl (by rw [hm]; exact hls) (argsL := argsL) (rest := rest) (lenOf hds hlen) rfl (by show 2 * 0 + _ ≤ _; omega) (hb hc hd) (fun _ _ => ⟨rfl, eT, hce, hsl⟩)
  dsimp only [Pt.U, Pt.locs, Pt.cells, Pt.slots] at Y1 l1 y1 z1 q hQ
  subst l1 y1 z1
  exact Wk.go q (k v T1 T1.heap ⟨⟨_, Y1, Fr.app N hQ.2⟩, hx, hc, hm, hZ, ho, hr, hl, rfl⟩ hQ.1)
theorem Wk.callI (X : Hr p l e R s m args below meth c Z own bs ml n0 rt T h cells slots) {i : Nat} {y : MethodName} {bytes : ByteArray} {maxL : Nat} {rm : Room} {as' : Array Value} {a : Addr} {Q : Option Value → Heap → Prop} (hini : y.name = "<init>") (w1 : (Cond.methodLink own i y).before a0 Z = true) (w2 : (Cond.instanceMethod y).before a0 Z = true) (w3 : (Cond.initialized y.cls).before a0 Z = true) (w4 : (Cond.code y bytes maxL none).before a0 Z = true) (hM : Con l y bytes maxL none rm [] Z as' h n0 Q)
    (hy : y.cls ≠ "java/lang/invoke/MethodHandle" ∧ y.cls ≠ "java/lang/invoke/VarHandle") {ps : List FieldType} {r : Option FieldType} (hds : parseMethodDescriptor y.desc = some ⟨ps, r⟩) (argsL rest : List Value) (hlen : argsL.length = ps.length) (hst : st = argsL.reverse ++ .ref a :: rest) (has : (.ref a :: argsL).toArray = as') (hls : Ls.size = ml) (W : Nat) (hW : (rest.map fun v => v.category).sum ≤ W) (hfr : rm.frames + 1 ≤ R.frames) (hlo : W + (maxL + 11) + rm.locals ≤ R.locals) (hce : cells + rm.cells ≤ R.cells) (hsl : slots + rm.slots ≤ R.slots) (cells' slots' : Nat) (hc' : cells + rm.cells = cells') (hs' : slots + rm.slots = slots')
    (hd : decode bs pc = .ok (.invokespecial i, 3)) (pc' : Nat) (hp : pc + 3 = pc')
    (k : ∀ v T' h', Hr p l e R s m args below meth c Z own bs ml n0 rt T' h' cells' slots' → Q v h' → Wk p.tables e below G (T'.setTop (mkF m pc' Ls (v.toList ++ rest)))) : Wk p.tables e below G (T.setTop (mkF m pc Ls st)) := by
  subst hp hc' hs' hst has
  obtain ⟨⟨locs, Y, N⟩, hx, hc, hm, hZ, ho, hr, hl, eT⟩ := X
  obtain ⟨v, _, ⟨T1, L1, k1, n1⟩, -, Y1, ⟨Lc, hQ, l1, y1, z1⟩, q⟩ := Y.specialBack hx (y := y) hini ho (mvT hZ w1) (mvT hZ w2) (mvT hZ w4) hy (backOf (W := W) (Q := fun v h L => Q v h ∧ Fr n0 L) hM hZ w4 w3 hfr hlo) (g := mkF m pc Ls (argsL.reverse ++ .ref a :: rest)) rfl (by rw [hm]; exact hls) (Steps.refl _) (a := a) (argsL := argsL) (rest := rest) (lenOf hds hlen) rfl (by show 2 * 0 + _ ≤ _; omega) (hb hc hd) (fun _ _ => ⟨rfl, eT, hce, hsl⟩)
  dsimp only [Pt.U, Pt.locs, Pt.cells, Pt.slots] at Y1 l1 y1 z1 q hQ
  subst l1 y1 z1
  exact Wk.go (fun t z => q.trans z) (k v T1 T1.heap ⟨⟨_, Y1, Fr.app N hQ.2⟩, hx, hc, hm, hZ, ho, hr, hl, rfl⟩ hQ.1)
theorem Wk.callV (X : Hr p l e R s m args below meth c Z own bs ml n0 rt T h cells slots) {i : Nat} {y : MethodName} {C : String} {bytes : ByteArray} {maxL : Nat} {rt' : Option FieldType} {rm : Room} {as' : Array Value} {a : Addr} {Q : Option Value → Heap → Prop} (w1 : (Cond.methodLink own i y).before a0 Z = true) (wd : (Cond.declares y).before a0 Z = true) (ws : (Cond.selects C y y).before a0 Z = true) (w2 : (Cond.instanceMethod y).before a0 Z = true) (w3 : (Cond.initialized y.cls).before a0 Z = true) (w4 : (Cond.code y bytes maxL rt').before a0 Z = true) (E : Exa Z h a C) (hM : Con l y bytes maxL rt' rm [] Z as' h n0 Q)
    (hy : y.cls ≠ "java/lang/invoke/MethodHandle" ∧ y.cls ≠ "java/lang/invoke/VarHandle") {ps : List FieldType} {r : Option FieldType} (hds : parseMethodDescriptor y.desc = some ⟨ps, r⟩) (argsL rest : List Value) (hlen : argsL.length = ps.length) (hst : st = argsL.reverse ++ .ref a :: rest) (has : (.ref a :: argsL).toArray = as') (hls : Ls.size = ml) (W : Nat) (hW : (rest.map fun v => v.category).sum ≤ W) (hfr : rm.frames + 1 ≤ R.frames) (hlo : W + (maxL + 11) + rm.locals ≤ R.locals) (hce : cells + rm.cells ≤ R.cells) (hsl : slots + rm.slots ≤ R.slots) (cells' slots' : Nat) (hc' : cells + rm.cells = cells') (hs' : slots + rm.slots = slots')
    (hd : decode bs pc = .ok (.invokevirtual i, 3)) (pc' : Nat) (hp : pc + 3 = pc')
    (k : ∀ v T' h', Hr p l e R s m args below meth c Z own bs ml n0 rt T' h' cells' slots' → Q v h' → Wk p.tables e below G (T'.setTop (mkF m pc' Ls (v.toList ++ rest)))) : Wk p.tables e below G (T.setTop (mkF m pc Ls st)) := by
  subst hp hc' hs' hst has
  obtain ⟨⟨locs, Y, N⟩, hx, hc, hm, hZ, ho, hr, hl, eT⟩ := X
  obtain ⟨cq, kq, qa, qb, qc⟩ := isOf hZ eT E
  obtain ⟨v, _, ⟨T1, L1, k1, n1⟩, -, Y1, ⟨Lc, hQ, l1, y1, z1⟩, q⟩ := Y.virtualBack hx (y := y) (z := y) ho (mvT hZ w1) (mvT hZ wd) (notFace_of_selects (args := #[]) (mvT hZ ws)) (mvT hZ ws) (mvT hZ w2) hy (backOf (W := W) (Q := fun v h L => Q v h ∧ Fr n0 L) hM hZ w4 w3 hfr hlo) qa qc (g := mkF m pc Ls (argsL.reverse ++ .ref a :: rest)) rfl (by rw [hm]; exact hls) (Steps.refl _) (argsL := argsL) (rest := rest) (lenOf hds hlen) rfl (by show 2 * 0 + _ ≤ _; omega) (hb hc hd) (fun _ _ => ⟨rfl, eT, hce, hsl⟩)
  dsimp only [Pt.U, Pt.locs, Pt.cells, Pt.slots] at Y1 l1 y1 z1 q hQ
  subst l1 y1 z1
  exact Wk.go (fun t z => q.trans z) (k v T1 T1.heap ⟨⟨_, Y1, Fr.app N hQ.2⟩, hx, hc, hm, hZ, ho, hr, hl, rfl⟩ hQ.1)
theorem Hr.more (X : Hr p l e R s m args below meth c Z own bs ml n0 rt T h cells slots) {cells' slots' : Nat} (h1 : cells ≤ cells') (h2 : slots ≤ slots') : Hr p l e R s m args below meth c Z own bs ml n0 rt T h cells' slots' := by
  obtain ⟨⟨locs, Y, N⟩, r⟩ := X
  exact ⟨⟨locs, Y.more h1 h2, N⟩, r⟩
variable {Q : Option Value → Heap → Prop} {C N : Nat}
theorem Wk.ireturn (X : Hr p l e R s m args below meth c Z own bs ml n0 (some .int) T h cells slots) {z : Int32} (hd : decode bs pc = .ok (.ireturn, 1)) (hC : cells ≤ C) (hN : slots ≤ N) (q : Q (some (.int z)) h) : Wk p.tables e below (Gl s n0 Q C N) (T.setTop (mkF m pc Ls (.int z :: st))) := by
  obtain ⟨⟨locs, Y, F⟩, hx, hc, hm, hZ, ho, hr, hl, rfl⟩ := X
  obtain ⟨fs, hq, hrun, hended, hW, hsame⟩ := Y.leave (v := some (.int z)) (fun h => by rw [hr] at h; cases h) hl
  exact ⟨_, _, retOut Y hx hr rfl (Or.inl ⟨rfl, Or.inl rfl, _, rfl⟩) (hb hc hd) hq, hrun, hended, _, _, rfl, ⟨q, F⟩, ⟨_, rfl⟩, hW, hsame.mono hC hN⟩
theorem Wk.zreturn (X : Hr p l e R s m args below meth c Z own bs ml n0 (some .boolean) T h cells slots) {z : Int32} (hd : decode bs pc = .ok (.ireturn, 1)) (hC : cells ≤ C) (hN : slots ≤ N) (hz : z = 0 ∨ z = 1) (q : Q (some (.int z)) h) : Wk p.tables e below (Gl s n0 Q C N) (T.setTop (mkF m pc Ls (.int z :: st))) := by
  obtain ⟨⟨locs, Y, F⟩, hx, hc, hm, hZ, ho, hr, hl, rfl⟩ := X
  obtain ⟨fs, hq, hrun, hended, hW, hsame⟩ := Y.leave (v := some (.int z)) (fun h => by rw [hr] at h; cases h) hl
  exact ⟨_, _, retOut Y hx hr (by rcases hz with rfl | rfl <;> rfl) (Or.inl ⟨rfl, Or.inr (Or.inl rfl), _, rfl⟩) (hb hc hd) hq, hrun, hended, _, _, rfl, ⟨q, F⟩, ⟨_, rfl⟩, hW, hsame.mono hC hN⟩
theorem Wk.lreturn (X : Hr p l e R s m args below meth c Z own bs ml n0 (some .long) T h cells slots) {z : Int64} (hd : decode bs pc = .ok (.lreturn, 1)) (hC : cells ≤ C) (hN : slots ≤ N) (q : Q (some (.long z)) h) : Wk p.tables e below (Gl s n0 Q C N) (T.setTop (mkF m pc Ls (.long z :: st))) := by
  obtain ⟨⟨locs, Y, F⟩, hx, hc, hm, hZ, ho, hr, hl, rfl⟩ := X
  obtain ⟨fs, hq, hrun, hended, hW, hsame⟩ := Y.leave (v := some (.long z)) (fun h => by rw [hr] at h; cases h) hl
  exact ⟨_, _, retOut Y hx hr rfl (Or.inr (Or.inl ⟨rfl, rfl, _, rfl⟩)) (hb hc hd) hq, hrun, hended, _, _, rfl, ⟨q, F⟩, ⟨_, rfl⟩, hW, hsame.mono hC hN⟩
theorem Wk.areturn {ty : FieldType} (X : Hr p l e R s m args below meth c Z own bs ml n0 (some ty) T h cells slots) {v : Value} (hd : decode bs pc = .ok (.areturn, 1)) (hC : cells ≤ C) (hN : slots ≤ N) (ht : ty.isReference = true) (hn : narrow ty v = v) (hv : v.isRef = true) (q : Q (some v) h) : Wk p.tables e below (Gl s n0 Q C N) (T.setTop (mkF m pc Ls (v :: st))) := by
  obtain ⟨⟨locs, Y, F⟩, hx, hc, hm, hZ, ho, hr, hl, rfl⟩ := X
  obtain ⟨fs, hq, hrun, hended, hW, hsame⟩ := Y.leave (v := some v) (fun h => by rw [hr] at h; cases h) hl
  exact ⟨_, _, retOut Y hx hr hn (Or.inr (Or.inr (Or.inr (Or.inr ⟨rfl, ht, hv⟩)))) (hb hc hd) hq, hrun, hended, _, _, rfl, ⟨q, F⟩, ⟨_, rfl⟩, hW, hsame.mono hC hN⟩
theorem Wk.vreturn (X : Hr p l e R s m args below meth c Z own bs ml n0 none T h cells slots) (hd : decode bs pc = .ok (.return_, 1)) (hC : cells ≤ C) (hN : slots ≤ N) (q : Q none h) : Wk p.tables e below (Gl s n0 Q C N) (T.setTop (mkF m pc Ls [])) := by
  obtain ⟨⟨locs, Y, F⟩, hx, hc, hm, hZ, ho, hr, hl, rfl⟩ := X
  obtain ⟨fs, hq, hrun, hended, hW, hsame⟩ := Y.leave (v := none) (fun _ => rfl) hl
  exact ⟨_, _, Y.returnOut hx hr (hb hc hd) hq, hrun, hended, _, _, rfl, ⟨q, F⟩, ⟨_, rfl⟩, hW, hsame.mono hC hN⟩
end Layer
theorem nn_new {n0 a r n : Nat} (q : n0 ≤ a) (h : a < n) (g : r = n) : n0 ≤ r := by omega
theorem ne_new {a r n : Nat} (h : a < n) (g : r = n) : a ≠ r := by omega
section Layer4
variable {p : Program} {l : Launch} {e : Env} {R : Room} {s : State} {m : MethodId} {args : Array Value} {below : List Frame} {meth : Method} {c : Code} {Z : State} {own : String} {bs : ByteArray} {ml n0 : Nat} {rt : Option FieldType} {T : State} {h h' : Heap} {cells slots : Nat} {G : State → Outcome → Prop} {pc : Nat} {Ls : Array Slot} {st : List Value} {a0 : Array Value} {a b : Addr}
/-- a cell that the VM knows -/
def Kn (h : Heap) (a : Addr) : Prop := ∃ cell : Cell, h[a]? = some cell ∧ cell.vm ≠ .unknown
theorem Kn.of {O n d : String} {v : Value} (F : Fld Z h a O n d v) : Kn h a := by
  obtain ⟨cell, _, _, _, _, h1, -, -, h4, -⟩ := F; exact ⟨cell, h1, h4⟩
theorem Kn.ext (N : Kn h a) (E : Ext h h') : Kn h' a := by
  obtain ⟨cell, h1, h2⟩ := N; exact ⟨cell, E.2 _ _ h1, h2⟩
theorem Kn.keep {ws : List Addr} (N : Kn h a) (K : Keep h h' ws) : Kn h' a := by
  obtain ⟨cell, h1, h2⟩ := N
  obtain ⟨c', q1, -, q3, -⟩ := K.2.2 a cell h1
  exact ⟨c', q1, by rw [q3]; exact h2⟩
theorem Kn.wr {sl : Nat} {v : Value} (N : Kn h a) (W : Wr h h' b sl v) : Kn h' a := N.keep (Keep.of_wr W)
theorem Wk.putF (X : Hr p l e R s m args below meth c Z own bs ml n0 rt T h cells slots) {i kk : Nat} {R0 O n d C : String} {ty : FieldType} {v : Value} (w : (Cond.fieldLink own i R0 n d).before a0 Z = true) (via : Via Z R0 O n d) (E : Exa Z h a C) (N : Kn h a) (L : (Cond.lays C O n d).before a0 Z = true ∨ ((Cond.laysFinal C O n d).before a0 Z = true ∧ own = O ∧ meth.name = "<init>")) (wi : (Cond.instantiable C kk).before a0 Z = true)
    (hty : parseFieldDescriptor d = some ty) (hn : narrow ty v = v) (hf : fits ty v = true) (hnew : n0 ≤ a) (hd : decode bs pc = .ok (.putfield i, 3)) (pc' : Nat) (hp : pc + 3 = pc')
    (k : ∀ T' h', Hr p l e R s m args below meth c Z own bs ml n0 rt T' h' cells slots → Wr h h' a (Jvm.RoadKit.slotOf Z O n d) v → Fld Z h' a O n d v → Wk p.tables e below G (T'.setTop (mkF m pc' Ls st))) : Wk p.tables e below G (T.setTop (mkF m pc Ls (v :: .ref a :: st))) := by
  obtain ⟨old, F⟩ := fld_laid (a0 := a0) E N wi (O := O) (n := n) (d := d) (L.imp id (·.1))
  exact Wk.putfield X w via F E L wi hty hn hf hnew hd pc' hp (fun T' h' X' W => k T' h' X' W (F.same W))
theorem Wk.castY (X : Hr p l e R s m args below meth c Z own bs ml n0 rt T h cells slots) {i : Nat} {K : String} (w : (Cond.classLink own i K).before a0 Z = true) (F : Ins Z h a K true) (hd : decode bs pc = .ok (.checkcast i, 3)) (pc' : Nat) (hp : pc + 3 = pc')
    (k : ∀ T', Hr p l e R s m args below meth c Z own bs ml n0 rt T' h cells slots → Wk p.tables e below G (T'.setTop (mkF m pc' Ls (.ref a :: st)))) : Wk p.tables e below G (T.setTop (mkF m pc Ls (.ref a :: st))) := by
  subst hp
  obtain ⟨⟨locs, Y, N⟩, hx, hc, hm, hZ, ho, hr, hl, eT⟩ := X
  obtain ⟨T', Y', e', q⟩ := Jvm.RoadKit.castY Y hx hZ ho w eT F (g := mkF m pc Ls (.ref a :: st)) rfl rfl (hb hc hd)
  exact Wk.go q (k T' ⟨⟨locs, Y', N⟩, hx, hc, hm, hZ, ho, hr, hl, e'⟩)
theorem Wk.instY (X : Hr p l e R s m args below meth c Z own bs ml n0 rt T h cells slots) {i : Nat} {K : String} (w : (Cond.classLink own i K).before a0 Z = true) (F : Ins Z h a K true) (hd : decode bs pc = .ok (.instanceof i, 3)) (pc' : Nat) (hp : pc + 3 = pc')
    (k : ∀ T', Hr p l e R s m args below meth c Z own bs ml n0 rt T' h cells slots → Wk p.tables e below G (T'.setTop (mkF m pc' Ls (.int 1 :: st)))) : Wk p.tables e below G (T.setTop (mkF m pc Ls (.ref a :: st))) := by
  subst hp
  obtain ⟨⟨locs, Y, N⟩, hx, hc, hm, hZ, ho, hr, hl, eT⟩ := X
  obtain ⟨T', Y', e', q⟩ := Jvm.RoadKit.instY Y hx hZ ho w eT F (g := mkF m pc Ls (.ref a :: st)) rfl rfl (hb hc hd)
  exact Wk.go q (k T' ⟨⟨locs, Y', N⟩, hx, hc, hm, hZ, ho, hr, hl, e'⟩)
/-- a private method's call, by its contract: that its class is no interface comes of another method's 'selects' word -/
theorem Wk.callP (X : Hr p l e R s m args below meth c Z own bs ml n0 rt T h cells slots) {i : Nat} {y z : MethodName} {C : String} {bytes : ByteArray} {maxL : Nat} {rt' : Option FieldType} {rm : Room} {as' : Array Value} {Q : Option Value → Heap → Prop} (w1 : (Cond.methodLink own i y).before a0 Z = true) (wp : (Cond.privateMethod y).before a0 Z = true) (w2 : (Cond.instanceMethod y).before a0 Z = true) (w3 : (Cond.initialized y.cls).before a0 Z = true) (w4 : (Cond.code y bytes maxL rt').before a0 Z = true) (ws : (Cond.selects C z z).before a0 Z = true) (hz : z.cls = y.cls) (E : Exa Z h a C) (hM : Con l y bytes maxL rt' rm [] Z as' h n0 Q)
    (hy : y.cls ≠ "java/lang/invoke/MethodHandle" ∧ y.cls ≠ "java/lang/invoke/VarHandle") {ps : List FieldType} {r : Option FieldType} (hds : parseMethodDescriptor y.desc = some ⟨ps, r⟩) (argsL rest : List Value) (hlen : argsL.length = ps.length) (hst : st = argsL.reverse ++ .ref a :: rest) (has : (.ref a :: argsL).toArray = as') (hls : Ls.size = ml) (W : Nat) (hW : (rest.map fun v => v.category).sum ≤ W) (hfr : rm.frames + 1 ≤ R.frames) (hlo : W + (maxL + 11) + rm.locals ≤ R.locals) (hce : cells + rm.cells ≤ R.cells) (hsl : slots + rm.slots ≤ R.slots) (cells' slots' : Nat) (hc' : cells + rm.cells = cells') (hs' : slots + rm.slots = slots')
    (hd : decode bs pc = .ok (.invokevirtual i, 3)) (pc' : Nat) (hp : pc + 3 = pc')
    (k : ∀ v T' h', Hr p l e R s m args below meth c Z own bs ml n0 rt T' h' cells' slots' → Q v h' → Wk p.tables e below G (T'.setTop (mkF m pc' Ls (v.toList ++ rest)))) : Wk p.tables e below G (T.setTop (mkF m pc Ls st)) := by
  subst hp hc' hs' hst has
  obtain ⟨⟨locs, Y, N⟩, hx, hc, hm, hZ, ho, hr, hl, eT⟩ := X
  obtain ⟨cell, hcell, hobj⟩ := E.cell
  obtain ⟨mk, methM, hnamed, hmethM, hstM, habM⟩ := Cond.instanceMethod_spec (mv (args := args) hZ w2)
  obtain ⟨methM', cM, hmethM', -, -, -, -, -, -, hsigM⟩ := Cond.code_spec hnamed (mv (args := args) hZ w4)
  cases hmethM.symm.trans hmethM'
  obtain ⟨c2, r2, m2, q1, q2, q3, q4, kP, hkP, hkPi⟩ := Cond.selects_spec (mv (args := args) hZ ws)
  have hcls : m2.cls = mk.cls := by
    have a1 := findClass_of_methodNamed q3
    have a2 := findClass_of_methodNamed hnamed
    rw [hz] at a1
    exact Option.some.inj (a1.symm.trans a2)
  rw [hcls] at hkP
  have hpriv := Cond.privateMethod_at (mvP hZ wp (args := args))
  have hselP : selectMethod e.platform s.vm cell.cls mk = .method mk := selectMethod_private hmethM (hpriv mk methM hnamed hmethM)
  obtain ⟨vm₁, X₁, hstep₁⟩ := Y.invokevirtual hx ho (mv (args := args) hZ w1) hnamed hmethM hstM hkP hkPi hy (a := a) (cell := cell) (by rw [eT]; exact hcell) hobj hselP hmethM habM hkP hkPi (g := mkF m pc Ls (argsL.reverse ++ .ref a :: rest)) rfl (argsL := argsL) (rest := rest) (lenOf hds hlen _ hsigM) rfl (hb hc hd)
  have hW₁ : s.WarmedH vm₁ := X₁.warmed
  have hK := backOf (len := 3) (W := W) (Q := fun v h L => Q v h ∧ Fr n0 L) (below := below) (s := s) (args := args) (p := p) (e := e) hM hZ w4 w3 hfr hlo
  obtain ⟨v, ⟨T1, L1, k1, n1⟩, Y1, ⟨Lc, hQ, l1, y1, z1⟩, hsteps⟩ := hK m meth c ⟨T.setVm vm₁, locs, cells, slots⟩ (mkF m pc Ls rest) (.invokevirtual i) mk (.ref a :: argsL).toArray X₁ rfl (by rw [hm]; exact hls) (hb hc hd) (by show 2 * 0 + (rest.map fun v => v.category).sum ≤ W; omega) (X₁.named hnamed) ⟨rfl, eT, hce, hsl⟩
  dsimp only [Pt.U, Pt.locs, Pt.cells, Pt.slots] at Y1 l1 y1 z1 hQ hsteps
  subst l1 y1 z1
  refine Wk.go (fun t z => ?_) (k v T1 T1.heap ⟨⟨_, Y1, Fr.app N hQ.2⟩, hx, hc, hm, hZ, ho, hr, hl, rfl⟩ hQ.1)
  exact hstep₁ _ fun acts => by rw [doInvoke_state]; exact hsteps.trans z
/-- the int on top, written otherwise -/
theorem Wk.topI {x : Int32} (z : Int32) (q : x = z) (k : Wk p.tables e below G (T.setTop (mkF m pc Ls (.int z :: st)))) : Wk p.tables e below G (T.setTop (mkF m pc Ls (.int x :: st))) := by
  subst q; exact k
/-- roads that meet with an int of any worth -/
theorem Wk.joinI {a : State} (b : Int32 → State) (k2 : ∀ q, Wk p.tables e below G (b q)) (k1 : (∀ q, Wk p.tables e below G (b q)) → Wk p.tables e below G a) : Wk p.tables e below G a := k1 k2
theorem Wk.dup2 (X : Hr p l e R s m args below meth c Z own bs ml n0 rt T h cells slots) {v w : Value} (hd : decode bs pc = .ok (.dup2, 1)) (pc' : Nat) (hp : pc + 1 = pc') (hv : v.category = 1) (hw : w.category = 1) (k : Wk p.tables e below G (T.setTop (mkF m pc' Ls (v :: w :: v :: w :: st)))) : Wk p.tables e below G (T.setTop (mkF m pc Ls (v :: w :: st))) := by
  subst hp
  exact Wk.pu X (fun hA hx hc t q => Jvm.Free.XT.dup2 hA hx rfl (hb hc hd) rfl hv hw q) k
theorem Wk.nreturn {ty : FieldType} (X : Hr p l e R s m args below meth c Z own bs ml n0 (some ty) T h cells slots) {Q : Option Value → Heap → Prop} {C N : Nat} {z : Int32} (ht : ty = .int ∨ ty = .boolean ∨ ty = .byte ∨ ty = .char ∨ ty = .short) (hd : decode bs pc = .ok (.ireturn, 1)) (hC : cells ≤ C) (hN : slots ≤ N) (hz : narrow ty (.int z) = .int z) (q : Q (some (.int z)) h) : Wk p.tables e below (Gl s n0 Q C N) (T.setTop (mkF m pc Ls (.int z :: st))) := by
  obtain ⟨⟨locs, Y, F⟩, hx, hc, hm, hZ, ho, hr, hl, rfl⟩ := X
  obtain ⟨fs, hq, hrun, hended, hW, hsame⟩ := Y.leave (v := some (.int z)) (fun h => by rw [hr] at h; cases h) hl
  exact ⟨_, _, retOut Y hx hr hz (Or.inl ⟨rfl, ht, _, rfl⟩) (hb hc hd) hq, hrun, hended, _, _, rfl, ⟨q, F⟩, ⟨_, rfl⟩, hW, hsame.mono hC hN⟩
end Layer4
section Layer6
variable {p : Program} {l : Launch} {e : Env} {R : Room} {s : State} {m : MethodId} {args : Array Value} {below : List Frame} {meth : Method} {c : Code} {Z : State} {own : String} {bs : ByteArray} {ml n0 : Nat} {rt : Option FieldType} {T : State} {h h' : Heap} {cells slots : Nat} {G : State → Outcome → Prop} {pc : Nat} {Ls : Array Slot} {st : List Value} {a0 : Array Value} {a b : Addr}
theorem own_nat32 {n : Nat} (h : n < 2 ^ 31) : ¬ n.toInt32 < 0 ∧ n.toInt32.toNatClampNeg = n := by
  have q : n.toInt32.toInt = n := len_toInt h
  refine ⟨?_, by simp [Int32.toNatClampNeg, q]⟩
  rw [Int32.lt_iff_toInt_lt, q]; simp only [Int32.reduceToInt]; omega
/-- an array of ints, as the library's copying law takes it -/
theorem Arl.arv {vs : List Int32} (A : Arl Z h a .int (vs.map Value.int)) : ∃ k, Arv Z h a k .int vs.length.toInt32 (vs.map Value.int) (.int 0) := by
  obtain ⟨cl, A, r1, r2⟩ := A
  have r3 : vs.length < 2 ^ 31 := by simpa using r2
  have hs : cl.slots.size = vs.length := by rw [r1]; simp
  refine ⟨cl.cls, cl, A, rfl, by rw [hs, (own_nat32 r3).2], (own_nat32 r3).1, fun k hk => ?_, fun k hk => ?_⟩
  · rw [r1, List.getD_eq_getElem?_getD]
    have : k < vs.length := by omega
    simp [this]
  · have : k < vs.length := by omega
    rw [List.getD_eq_getElem?_getD]
    simp [this, fits]
theorem Arl.of_arv {k : ClassId} {us : List Value} {z : Int32} {d : Value} (V : Arv Z h a k .int z us d) (hl : z.toNatClampNeg = us.length) (hb : us.length < 2 ^ 31) : Arl Z h a .int us := by
  obtain ⟨cl, A, -, hs, -, H, -⟩ := V
  refine ⟨cl, A, ?_, hb⟩
  apply Array.ext
  · rw [hs, hl]; simp
  · intro i h1 h2
    have q := H i h1
    have h3 : i < us.length := by simpa using h2
    rw [Array.getElem?_eq_getElem h1, List.getD_eq_getElem?_getD, List.getElem?_eq_getElem h3] at q
    simpa using q
theorem Wk.copyI (X : Hr p l e R s m args below meth c Z own bs ml n0 rt T h cells slots) {i : Nat} {vs : List Int32} {n : Int32} (w1 : (Cond.methodLink own i Jvm.Stand.acN).before a0 Z = true) (w2 : (Cond.native Jvm.Stand.acN).before a0 Z = true) (w3 : (Cond.static Jvm.Stand.acN).before a0 Z = true) (w4 : (Cond.initialized "java/lang/System").before a0 Z = true)
    (A : Arl Z h a .int (vs.map Value.int)) (N : Nat) (B : Arl Z h b .int (List.replicate N (.int 0))) (hle : vs.length ≤ N) (hnew : n0 ≤ b) (hn : n.toInt = vs.length) (hls : Ls.size = ml) (W : Nat) (hW : (st.map fun v => v.category).sum ≤ W) (hf : 1 ≤ R.frames) (hlo : W + (nativeFrameWords "java/lang/System" "arraycopy" 5 + 11) ≤ R.locals) (hd : decode bs pc = .ok (.invokestatic i, 3)) (pc' : Nat) (hp : pc + 3 = pc')
    (k : ∀ T' h', Hr p l e R s m args below meth c Z own bs ml n0 rt T' h' cells slots → Keep h h' [b] → Arl Z h' b .int (vs.map Value.int ++ List.replicate (N - vs.length) (.int 0)) → Wk p.tables e below G (T'.setTop (mkF m pc' Ls st))) : Wk p.tables e below G (T.setTop (mkF m pc Ls (.int n :: .int 0 :: .ref b :: .int 0 :: .ref a :: st))) := by
  subst hp
  obtain ⟨⟨locs, Y, F⟩, hx, hc, hm, hZ, ho, hr, hl, eT⟩ := X
  have hv : vs.length < 2 ^ 31 := by simpa using A.len
  have hN : N < 2 ^ 31 := by simpa using B.len
  obtain ⟨ka, VA⟩ := A.arv
  have B' : Arl Z h b .int ((List.replicate N (0 : Int32)).map Value.int) := by simpa using B
  obtain ⟨kb, VB⟩ := B'.arv
  have hn' : n.toNatClampNeg = vs.length := by simp [Int32.toNatClampNeg, hn]
  have hn0 : ¬ n < 0 := by rw [Int32.lt_iff_toInt_lt, hn]; simp only [Int32.reduceToInt]; omega
  have z0 : (0 : Int32).toNatClampNeg = 0 := rfl
  have hlb : ((List.replicate N (0 : Int32)).length.toInt32).toNatClampNeg = N := by rw [(own_nat32 (by simpa using hN)).2]; simp
  obtain ⟨T', h', L, Y', e', F', K, V, q⟩ := cpA Y hx hZ ho w1 w2 w3 w4 eT (us := vs.map Value.int) VA VB (Or.inl ⟨rfl, rfl⟩) (sp := 0) (dp := 0) (nn := n) (by decide) (by decide) hn0 (by rw [z0, hn', (own_nat32 hv).2]; omega) (by rw [z0, hn', hlb]; omega)
    (by
      rw [hn', z0]
      apply List.ext_getElem
      · simp
      · intro j h1 h2
        have h3 : j < vs.length := by simpa using h1
        simp [h3])
    (by rw [z0, hn']; simpa using hle) F hnew (g := mkF m pc Ls (.int n :: .int 0 :: .ref b :: .int 0 :: .ref a :: st)) rfl (by rw [hm]; exact hls) rfl (hb hc hd) hf (W := W) (by show 2 * 0 + (st.map fun v => v.category).sum ≤ W; omega) hlo
  refine Wk.go q (k T' h' ⟨⟨L, Y', F'⟩, hx, hc, hm, hZ, ho, hr, hl, e'⟩ K ?_)
  have e1 : (List.map Value.int (List.replicate N (0 : Int32))).take (0 : Int32).toNatClampNeg ++ vs.map Value.int ++ (List.map Value.int (List.replicate N (0 : Int32))).drop ((0 : Int32).toNatClampNeg + n.toNatClampNeg) = vs.map Value.int ++ List.replicate (N - vs.length) (.int 0) := by
    rw [z0, hn']; simp
  rw [e1] at V
  refine Arl.of_arv V ?_ ?_
  · rw [hlb]; simp; omega
  · simp; omega
end Layer6
theorem t0 {a0 : Array Value} {Z : State} (hw : ∀ d ∈ tables_1, d.before a0 Z = true) : Jvm.Cond.before (Jvm.Cond.classLink "com/example/vestline/vestline/HoursHistoriesYearsAndHoursPinLaw" (7 : Nat) "com/example/vestline/vestline/HoursHistories") a0 Z = true := hw _ (List.mem_of_getElem? (i := 0) rfl)
theorem t1 {a0 : Array Value} {Z : State} (hw : ∀ d ∈ tables_1, d.before a0 Z = true) : Jvm.Cond.before (Jvm.Cond.instantiable "com/example/vestline/vestline/HoursHistories" (6 : Nat)) a0 Z = true := hw _ (List.mem_of_getElem? (i := 1) rfl)
theorem t2 {a0 : Array Value} {Z : State} (hw : ∀ d ∈ tables_1, d.before a0 Z = true) : Jvm.Cond.before (Jvm.Cond.initialized "com/example/vestline/vestline/HoursHistories") a0 Z = true := hw _ (List.mem_of_getElem? (i := 2) rfl)
theorem t3 {a0 : Array Value} {Z : State} (hw : ∀ d ∈ tables_1, d.before a0 Z = true) : Jvm.Cond.before (Jvm.Cond.methodLink "com/example/vestline/vestline/HoursHistoriesYearsAndHoursPinLaw" (9 : Nat) ({ cls := "com/example/vestline/vestline/HoursHistories", name := "<init>", desc := "()V" } : Jvm.MethodName)) a0 Z = true := hw _ (List.mem_of_getElem? (i := 3) rfl)
theorem t4 {a0 : Array Value} {Z : State} (hw : ∀ d ∈ tables_1, d.before a0 Z = true) : Jvm.Cond.before (Jvm.Cond.instanceMethod ({ cls := "com/example/vestline/vestline/HoursHistories", name := "<init>", desc := "()V" } : Jvm.MethodName)) a0 Z = true := hw _ (List.mem_of_getElem? (i := 4) rfl)
theorem t5 {a0 : Array Value} {Z : State} (hw : ∀ d ∈ tables_1, d.before a0 Z = true) : Jvm.Cond.before (Jvm.Cond.code ({ cls := "com/example/vestline/vestline/HoursHistories", name := "<init>", desc := "()V" } : Jvm.MethodName) prog_12_method_1_code (1 : Nat) (Option.none : Option Jvm.ClassFile.FieldType)) a0 Z = true := hw _ (List.mem_of_getElem? (i := 5) rfl)
theorem t6 {a0 : Array Value} {Z : State} (hw : ∀ d ∈ tables_1, d.before a0 Z = true) : Jvm.Cond.before (Jvm.Cond.methodLink "com/example/vestline/vestline/HoursHistories" (1 : Nat) ({ cls := "java/lang/Object", name := "<init>", desc := "()V" } : Jvm.MethodName)) a0 Z = true := hw _ (List.mem_of_getElem? (i := 6) rfl)
theorem t7 {a0 : Array Value} {Z : State} (hw : ∀ d ∈ tables_1, d.before a0 Z = true) : Jvm.Cond.before (Jvm.Cond.instanceMethod ({ cls := "java/lang/Object", name := "<init>", desc := "()V" } : Jvm.MethodName)) a0 Z = true := hw _ (List.mem_of_getElem? (i := 7) rfl)
theorem t8 {a0 : Array Value} {Z : State} (hw : ∀ d ∈ tables_1, d.before a0 Z = true) : Jvm.Cond.before (Jvm.Cond.code ({ cls := "java/lang/Object", name := "<init>", desc := "()V" } : Jvm.MethodName) object_method_1_code (1 : Nat) (Option.none : Option Jvm.ClassFile.FieldType)) a0 Z = true := hw _ (List.mem_of_getElem? (i := 8) rfl)
theorem t9 {a0 : Array Value} {Z : State} (hw : ∀ d ∈ tables_1, d.before a0 Z = true) : Jvm.Cond.before (Jvm.Cond.arrayClass Jvm.ClassFile.FieldType.int) a0 Z = true := hw _ (List.mem_of_getElem? (i := 9) rfl)
theorem t10 {a0 : Array Value} {Z : State} (hw : ∀ d ∈ tables_1, d.before a0 Z = true) : Jvm.Cond.before (Jvm.Cond.fieldLink "com/example/vestline/vestline/HoursHistories" (7 : Nat) "com/example/vestline/vestline/HoursHistories" "participants" "[I") a0 Z = true := hw _ (List.mem_of_getElem? (i := 10) rfl)
theorem t11 {a0 : Array Value} {Z : State} (hw : ∀ d ∈ tables_1, d.before a0 Z = true) : Jvm.Cond.before (Jvm.Cond.lays "com/example/vestline/vestline/HoursHistories" "com/example/vestline/vestline/HoursHistories" "participants" "[I") a0 Z = true := hw _ (List.mem_of_getElem? (i := 11) rfl)
theorem t12 {a0 : Array Value} {Z : State} (hw : ∀ d ∈ tables_1, d.before a0 Z = true) : Jvm.Cond.before (Jvm.Cond.fieldLink "com/example/vestline/vestline/HoursHistories" (13 : Nat) "com/example/vestline/vestline/HoursHistories" "years" "[I") a0 Z = true := hw _ (List.mem_of_getElem? (i := 12) rfl)
theorem t13 {a0 : Array Value} {Z : State} (hw : ∀ d ∈ tables_1, d.before a0 Z = true) : Jvm.Cond.before (Jvm.Cond.lays "com/example/vestline/vestline/HoursHistories" "com/example/vestline/vestline/HoursHistories" "years" "[I") a0 Z = true := hw _ (List.mem_of_getElem? (i := 13) rfl)
theorem t14 {a0 : Array Value} {Z : State} (hw : ∀ d ∈ tables_1, d.before a0 Z = true) : Jvm.Cond.before (Jvm.Cond.fieldLink "com/example/vestline/vestline/HoursHistories" (16 : Nat) "com/example/vestline/vestline/HoursHistories" "events" "[I") a0 Z = true := hw _ (List.mem_of_getElem? (i := 14) rfl)
theorem t15 {a0 : Array Value} {Z : State} (hw : ∀ d ∈ tables_1, d.before a0 Z = true) : Jvm.Cond.before (Jvm.Cond.lays "com/example/vestline/vestline/HoursHistories" "com/example/vestline/vestline/HoursHistories" "events" "[I") a0 Z = true := hw _ (List.mem_of_getElem? (i := 15) rfl)
theorem t16 {a0 : Array Value} {Z : State} (hw : ∀ d ∈ tables_1, d.before a0 Z = true) : Jvm.Cond.before (Jvm.Cond.methodLink "com/example/vestline/vestline/HoursHistoriesYearsAndHoursPinLaw" (10 : Nat) ({ cls := "com/example/vestline/vestline/HoursHistories", name := "add", desc := "()I" } : Jvm.MethodName)) a0 Z = true := hw _ (List.mem_of_getElem? (i := 16) rfl)
theorem t17 {a0 : Array Value} {Z : State} (hw : ∀ d ∈ tables_1, d.before a0 Z = true) : Jvm.Cond.before (Jvm.Cond.declares ({ cls := "com/example/vestline/vestline/HoursHistories", name := "add", desc := "()I" } : Jvm.MethodName)) a0 Z = true := hw _ (List.mem_of_getElem? (i := 17) rfl)
theorem t18 {a0 : Array Value} {Z : State} (hw : ∀ d ∈ tables_1, d.before a0 Z = true) : Jvm.Cond.before (Jvm.Cond.instanceMethod ({ cls := "com/example/vestline/vestline/HoursHistories", name := "add", desc := "()I" } : Jvm.MethodName)) a0 Z = true := hw _ (List.mem_of_getElem? (i := 18) rfl)
theorem t19 {a0 : Array Value} {Z : State} (hw : ∀ d ∈ tables_1, d.before a0 Z = true) : Jvm.Cond.before (Jvm.Cond.selects "com/example/vestline/vestline/HoursHistories" ({ cls := "com/example/vestline/vestline/HoursHistories", name := "add", desc := "()I" } : Jvm.MethodName) ({ cls := "com/example/vestline/vestline/HoursHistories", name := "add", desc := "()I" } : Jvm.MethodName)) a0 Z = true := hw _ (List.mem_of_getElem? (i := 19) rfl)
theorem t20 {a0 : Array Value} {Z : State} (hw : ∀ d ∈ tables_1, d.before a0 Z = true) : Jvm.Cond.before (Jvm.Cond.code ({ cls := "com/example/vestline/vestline/HoursHistories", name := "add", desc := "()I" } : Jvm.MethodName) prog_12_method_2_code (2 : Nat) (Option.some Jvm.ClassFile.FieldType.int)) a0 Z = true := hw _ (List.mem_of_getElem? (i := 20) rfl)
theorem t21 {a0 : Array Value} {Z : State} (hw : ∀ d ∈ tables_1, d.before a0 Z = true) : Jvm.Cond.before (Jvm.Cond.fieldLink "com/example/vestline/vestline/HoursHistories" (19 : Nat) "com/example/vestline/vestline/HoursHistories" "participantCount" "I") a0 Z = true := hw _ (List.mem_of_getElem? (i := 21) rfl)
theorem t22 {a0 : Array Value} {Z : State} (hw : ∀ d ∈ tables_1, d.before a0 Z = true) : Jvm.Cond.before (Jvm.Cond.lays "com/example/vestline/vestline/HoursHistories" "com/example/vestline/vestline/HoursHistories" "participantCount" "I") a0 Z = true := hw _ (List.mem_of_getElem? (i := 22) rfl)
theorem t23 {a0 : Array Value} {Z : State} (hw : ∀ d ∈ tables_1, d.before a0 Z = true) : Jvm.Cond.before (Jvm.Cond.methodLink "com/example/vestline/vestline/HoursHistories" (23 : Nat) ({ cls := "com/example/vestline/vestline/HoursHistories", name := "room", desc := "([III)[I" } : Jvm.MethodName)) a0 Z = true := hw _ (List.mem_of_getElem? (i := 23) rfl)
theorem t24 {a0 : Array Value} {Z : State} (hw : ∀ d ∈ tables_1, d.before a0 Z = true) : Jvm.Cond.before (Jvm.Cond.static ({ cls := "com/example/vestline/vestline/HoursHistories", name := "room", desc := "([III)[I" } : Jvm.MethodName)) a0 Z = true := hw _ (List.mem_of_getElem? (i := 24) rfl)
theorem t25 {a0 : Array Value} {Z : State} (hw : ∀ d ∈ tables_1, d.before a0 Z = true) : Jvm.Cond.before (Jvm.Cond.code ({ cls := "com/example/vestline/vestline/HoursHistories", name := "room", desc := "([III)[I" } : Jvm.MethodName) prog_12_method_17_code (3 : Nat) (Option.some (Jvm.ClassFile.FieldType.array Jvm.ClassFile.FieldType.int))) a0 Z = true := hw _ (List.mem_of_getElem? (i := 25) rfl)
theorem t26 {a0 : Array Value} {Z : State} (hw : ∀ d ∈ tables_1, d.before a0 Z = true) : Jvm.Cond.before (Jvm.Cond.methodLink "com/example/vestline/vestline/HoursHistories" (115 : Nat) ({ cls := "java/lang/Math", name := "multiplyExact", desc := "(II)I" } : Jvm.MethodName)) a0 Z = true := hw _ (List.mem_of_getElem? (i := 26) rfl)
theorem t27 {a0 : Array Value} {Z : State} (hw : ∀ d ∈ tables_1, d.before a0 Z = true) : Jvm.Cond.before (Jvm.Cond.static ({ cls := "java/lang/Math", name := "multiplyExact", desc := "(II)I" } : Jvm.MethodName)) a0 Z = true := hw _ (List.mem_of_getElem? (i := 27) rfl)
theorem t28 {a0 : Array Value} {Z : State} (hw : ∀ d ∈ tables_1, d.before a0 Z = true) : Jvm.Cond.before (Jvm.Cond.initialized "java/lang/Math") a0 Z = true := hw _ (List.mem_of_getElem? (i := 28) rfl)
theorem t29 {a0 : Array Value} {Z : State} (hw : ∀ d ∈ tables_1, d.before a0 Z = true) : Jvm.Cond.before (Jvm.Cond.code ({ cls := "java/lang/Math", name := "multiplyExact", desc := "(II)I" } : Jvm.MethodName) jdk_29_method_28_code (4 : Nat) (Option.some Jvm.ClassFile.FieldType.int)) a0 Z = true := hw _ (List.mem_of_getElem? (i := 29) rfl)
theorem t30 {a0 : Array Value} {Z : State} (hw : ∀ d ∈ tables_1, d.before a0 Z = true) : Jvm.Cond.before (Jvm.Cond.methodLink "com/example/vestline/vestline/HoursHistories" (118 : Nat) ({ cls := "java/lang/Math", name := "max", desc := "(II)I" } : Jvm.MethodName)) a0 Z = true := hw _ (List.mem_of_getElem? (i := 30) rfl)
theorem t31 {a0 : Array Value} {Z : State} (hw : ∀ d ∈ tables_1, d.before a0 Z = true) : Jvm.Cond.before (Jvm.Cond.static ({ cls := "java/lang/Math", name := "max", desc := "(II)I" } : Jvm.MethodName)) a0 Z = true := hw _ (List.mem_of_getElem? (i := 31) rfl)
theorem t32 {a0 : Array Value} {Z : State} (hw : ∀ d ∈ tables_1, d.before a0 Z = true) : Jvm.Cond.before (Jvm.Cond.code ({ cls := "java/lang/Math", name := "max", desc := "(II)I" } : Jvm.MethodName) jdk_29_method_65_code (2 : Nat) (Option.some Jvm.ClassFile.FieldType.int)) a0 Z = true := hw _ (List.mem_of_getElem? (i := 32) rfl)
theorem t33 {a0 : Array Value} {Z : State} (hw : ∀ d ∈ tables_1, d.before a0 Z = true) : Jvm.Cond.before (Jvm.Cond.methodLink "com/example/vestline/vestline/HoursHistories" (121 : Nat) ({ cls := "java/util/Arrays", name := "copyOf", desc := "([II)[I" } : Jvm.MethodName)) a0 Z = true := hw _ (List.mem_of_getElem? (i := 33) rfl)
theorem t34 {a0 : Array Value} {Z : State} (hw : ∀ d ∈ tables_1, d.before a0 Z = true) : Jvm.Cond.before (Jvm.Cond.static ({ cls := "java/util/Arrays", name := "copyOf", desc := "([II)[I" } : Jvm.MethodName)) a0 Z = true := hw _ (List.mem_of_getElem? (i := 34) rfl)
theorem t35 {a0 : Array Value} {Z : State} (hw : ∀ d ∈ tables_1, d.before a0 Z = true) : Jvm.Cond.before (Jvm.Cond.initialized "java/util/Arrays") a0 Z = true := hw _ (List.mem_of_getElem? (i := 35) rfl)
theorem t36 {a0 : Array Value} {Z : State} (hw : ∀ d ∈ tables_1, d.before a0 Z = true) : Jvm.Cond.before (Jvm.Cond.code ({ cls := "java/util/Arrays", name := "copyOf", desc := "([II)[I" } : Jvm.MethodName) jdk_65_method_123_code (3 : Nat) (Option.some (Jvm.ClassFile.FieldType.array Jvm.ClassFile.FieldType.int))) a0 Z = true := hw _ (List.mem_of_getElem? (i := 36) rfl)
theorem t37 {a0 : Array Value} {Z : State} (hw : ∀ d ∈ tables_1, d.before a0 Z = true) : Jvm.Cond.before (Jvm.Cond.methodLink "java/util/Arrays" (304 : Nat) ({ cls := "java/lang/Math", name := "min", desc := "(II)I" } : Jvm.MethodName)) a0 Z = true := hw _ (List.mem_of_getElem? (i := 37) rfl)
theorem t38 {a0 : Array Value} {Z : State} (hw : ∀ d ∈ tables_1, d.before a0 Z = true) : Jvm.Cond.before (Jvm.Cond.static ({ cls := "java/lang/Math", name := "min", desc := "(II)I" } : Jvm.MethodName)) a0 Z = true := hw _ (List.mem_of_getElem? (i := 38) rfl)
theorem t39 {a0 : Array Value} {Z : State} (hw : ∀ d ∈ tables_1, d.before a0 Z = true) : Jvm.Cond.before (Jvm.Cond.code ({ cls := "java/lang/Math", name := "min", desc := "(II)I" } : Jvm.MethodName) jdk_29_method_69_code (2 : Nat) (Option.some Jvm.ClassFile.FieldType.int)) a0 Z = true := hw _ (List.mem_of_getElem? (i := 39) rfl)
theorem t40 {a0 : Array Value} {Z : State} (hw : ∀ d ∈ tables_1, d.before a0 Z = true) : Jvm.Cond.before (Jvm.Cond.methodLink "java/util/Arrays" (150 : Nat) ({ cls := "java/lang/System", name := "arraycopy", desc := "(Ljava/lang/Object;ILjava/lang/Object;II)V" } : Jvm.MethodName)) a0 Z = true := hw _ (List.mem_of_getElem? (i := 40) rfl)
theorem t41 {a0 : Array Value} {Z : State} (hw : ∀ d ∈ tables_1, d.before a0 Z = true) : Jvm.Cond.before (Jvm.Cond.static ({ cls := "java/lang/System", name := "arraycopy", desc := "(Ljava/lang/Object;ILjava/lang/Object;II)V" } : Jvm.MethodName)) a0 Z = true := hw _ (List.mem_of_getElem? (i := 41) rfl)
theorem t42 {a0 : Array Value} {Z : State} (hw : ∀ d ∈ tables_1, d.before a0 Z = true) : Jvm.Cond.before (Jvm.Cond.initialized "java/lang/System") a0 Z = true := hw _ (List.mem_of_getElem? (i := 42) rfl)
theorem t43 {a0 : Array Value} {Z : State} (hw : ∀ d ∈ tables_1, d.before a0 Z = true) : Jvm.Cond.before (Jvm.Cond.native ({ cls := "java/lang/System", name := "arraycopy", desc := "(Ljava/lang/Object;ILjava/lang/Object;II)V" } : Jvm.MethodName)) a0 Z = true := hw _ (List.mem_of_getElem? (i := 43) rfl)
theorem t44 {a0 : Array Value} {Z : State} (hw : ∀ d ∈ tables_1, d.before a0 Z = true) : Jvm.Cond.before (Jvm.Cond.methodLink "com/example/vestline/vestline/HoursHistories" (27 : Nat) ({ cls := "java/util/Arrays", name := "fill", desc := "([IIII)V" } : Jvm.MethodName)) a0 Z = true := hw _ (List.mem_of_getElem? (i := 44) rfl)
theorem t45 {a0 : Array Value} {Z : State} (hw : ∀ d ∈ tables_1, d.before a0 Z = true) : Jvm.Cond.before (Jvm.Cond.static ({ cls := "java/util/Arrays", name := "fill", desc := "([IIII)V" } : Jvm.MethodName)) a0 Z = true := hw _ (List.mem_of_getElem? (i := 45) rfl)
theorem t46 {a0 : Array Value} {Z : State} (hw : ∀ d ∈ tables_1, d.before a0 Z = true) : Jvm.Cond.before (Jvm.Cond.code ({ cls := "java/util/Arrays", name := "fill", desc := "([IIII)V" } : Jvm.MethodName) jdk_65_method_104_code (5 : Nat) (Option.none : Option Jvm.ClassFile.FieldType)) a0 Z = true := hw _ (List.mem_of_getElem? (i := 46) rfl)
theorem t47 {a0 : Array Value} {Z : State} (hw : ∀ d ∈ tables_1, d.before a0 Z = true) : Jvm.Cond.before (Jvm.Cond.methodLink "java/util/Arrays" (13 : Nat) ({ cls := "java/util/Arrays", name := "rangeCheck", desc := "(III)V" } : Jvm.MethodName)) a0 Z = true := hw _ (List.mem_of_getElem? (i := 47) rfl)
theorem t48 {a0 : Array Value} {Z : State} (hw : ∀ d ∈ tables_1, d.before a0 Z = true) : Jvm.Cond.before (Jvm.Cond.static ({ cls := "java/util/Arrays", name := "rangeCheck", desc := "(III)V" } : Jvm.MethodName)) a0 Z = true := hw _ (List.mem_of_getElem? (i := 48) rfl)
theorem t49 {a0 : Array Value} {Z : State} (hw : ∀ d ∈ tables_1, d.before a0 Z = true) : Jvm.Cond.before (Jvm.Cond.code ({ cls := "java/util/Arrays", name := "rangeCheck", desc := "(III)V" } : Jvm.MethodName) jdk_65_method_30_code (3 : Nat) (Option.none : Option Jvm.ClassFile.FieldType)) a0 Z = true := hw _ (List.mem_of_getElem? (i := 49) rfl)
theorem t50 {a0 : Array Value} {Z : State} (hw : ∀ d ∈ tables_1, d.before a0 Z = true) : Jvm.Cond.before (Jvm.Cond.methodLink "com/example/vestline/vestline/HoursHistoriesYearsAndHoursPinLaw" (14 : Nat) ({ cls := "com/example/vestline/vestline/HoursHistories", name := "addYear", desc := "(III)V" } : Jvm.MethodName)) a0 Z = true := hw _ (List.mem_of_getElem? (i := 50) rfl)
theorem t51 {a0 : Array Value} {Z : State} (hw : ∀ d ∈ tables_1, d.before a0 Z = true) : Jvm.Cond.before (Jvm.Cond.declares ({ cls := "com/example/vestline/vestline/HoursHistories", name := "addYear", desc := "(III)V" } : Jvm.MethodName)) a0 Z = true := hw _ (List.mem_of_getElem? (i := 51) rfl)
theorem t52 {a0 : Array Value} {Z : State} (hw : ∀ d ∈ tables_1, d.before a0 Z = true) : Jvm.Cond.before (Jvm.Cond.instanceMethod ({ cls := "com/example/vestline/vestline/HoursHistories", name := "addYear", desc := "(III)V" } : Jvm.MethodName)) a0 Z = true := hw _ (List.mem_of_getElem? (i := 52) rfl)
theorem t53 {a0 : Array Value} {Z : State} (hw : ∀ d ∈ tables_1, d.before a0 Z = true) : Jvm.Cond.before (Jvm.Cond.selects "com/example/vestline/vestline/HoursHistories" ({ cls := "com/example/vestline/vestline/HoursHistories", name := "addYear", desc := "(III)V" } : Jvm.MethodName) ({ cls := "com/example/vestline/vestline/HoursHistories", name := "addYear", desc := "(III)V" } : Jvm.MethodName)) a0 Z = true := hw _ (List.mem_of_getElem? (i := 53) rfl)
theorem t54 {a0 : Array Value} {Z : State} (hw : ∀ d ∈ tables_1, d.before a0 Z = true) : Jvm.Cond.before (Jvm.Cond.code ({ cls := "com/example/vestline/vestline/HoursHistories", name := "addYear", desc := "(III)V" } : Jvm.MethodName) prog_12_method_4_code (5 : Nat) (Option.none : Option Jvm.ClassFile.FieldType)) a0 Z = true := hw _ (List.mem_of_getElem? (i := 54) rfl)
theorem t55 {a0 : Array Value} {Z : State} (hw : ∀ d ∈ tables_1, d.before a0 Z = true) : Jvm.Cond.before (Jvm.Cond.fieldLink "com/example/vestline/vestline/HoursHistories" (33 : Nat) "com/example/vestline/vestline/HoursHistories" "yearCount" "I") a0 Z = true := hw _ (List.mem_of_getElem? (i := 55) rfl)
theorem t56 {a0 : Array Value} {Z : State} (hw : ∀ d ∈ tables_1, d.before a0 Z = true) : Jvm.Cond.before (Jvm.Cond.lays "com/example/vestline/vestline/HoursHistories" "com/example/vestline/vestline/HoursHistories" "yearCount" "I") a0 Z = true := hw _ (List.mem_of_getElem? (i := 56) rfl)
theorem t57 {a0 : Array Value} {Z : State} (hw : ∀ d ∈ tables_1, d.before a0 Z = true) : Jvm.Cond.before (Jvm.Cond.methodLink "com/example/vestline/vestline/HoursHistories" (36 : Nat) ({ cls := "com/example/vestline/vestline/HoursHistories", name := "link", desc := "([IIIII)V" } : Jvm.MethodName)) a0 Z = true := hw _ (List.mem_of_getElem? (i := 57) rfl)
theorem t58 {a0 : Array Value} {Z : State} (hw : ∀ d ∈ tables_1, d.before a0 Z = true) : Jvm.Cond.before (Jvm.Cond.instanceMethod ({ cls := "com/example/vestline/vestline/HoursHistories", name := "link", desc := "([IIIII)V" } : Jvm.MethodName)) a0 Z = true := hw _ (List.mem_of_getElem? (i := 58) rfl)
theorem t59 {a0 : Array Value} {Z : State} (hw : ∀ d ∈ tables_1, d.before a0 Z = true) : Jvm.Cond.before (Jvm.Cond.privateMethod ({ cls := "com/example/vestline/vestline/HoursHistories", name := "link", desc := "([IIIII)V" } : Jvm.MethodName)) a0 Z = true := hw _ (List.mem_of_getElem? (i := 59) rfl)
theorem t60 {a0 : Array Value} {Z : State} (hw : ∀ d ∈ tables_1, d.before a0 Z = true) : Jvm.Cond.before (Jvm.Cond.code ({ cls := "com/example/vestline/vestline/HoursHistories", name := "link", desc := "([IIIII)V" } : Jvm.MethodName) prog_12_method_16_code (8 : Nat) (Option.none : Option Jvm.ClassFile.FieldType)) a0 Z = true := hw _ (List.mem_of_getElem? (i := 60) rfl)
theorem t61 {a0 : Array Value} {Z : State} (hw : ∀ d ∈ tables_1, d.before a0 Z = true) : Jvm.Cond.before (Jvm.Cond.methodLink "com/example/vestline/vestline/HoursHistoriesYearsAndHoursPinLaw" (18 : Nat) ({ cls := "com/example/vestline/vestline/HoursHistoriesYearsAndHoursPinLaw", name := "put", desc := "([IIII)I" } : Jvm.MethodName)) a0 Z = true := hw _ (List.mem_of_getElem? (i := 61) rfl)
theorem t62 {a0 : Array Value} {Z : State} (hw : ∀ d ∈ tables_1, d.before a0 Z = true) : Jvm.Cond.before (Jvm.Cond.static ({ cls := "com/example/vestline/vestline/HoursHistoriesYearsAndHoursPinLaw", name := "put", desc := "([IIII)I" } : Jvm.MethodName)) a0 Z = true := hw _ (List.mem_of_getElem? (i := 62) rfl)
theorem t63 {a0 : Array Value} {Z : State} (hw : ∀ d ∈ tables_1, d.before a0 Z = true) : Jvm.Cond.before (Jvm.Cond.initialized "com/example/vestline/vestline/HoursHistoriesYearsAndHoursPinLaw") a0 Z = true := hw _ (List.mem_of_getElem? (i := 63) rfl)
theorem t64 {a0 : Array Value} {Z : State} (hw : ∀ d ∈ tables_1, d.before a0 Z = true) : Jvm.Cond.before (Jvm.Cond.code ({ cls := "com/example/vestline/vestline/HoursHistoriesYearsAndHoursPinLaw", name := "put", desc := "([IIII)I" } : Jvm.MethodName) method_3_code (4 : Nat) (Option.some Jvm.ClassFile.FieldType.int)) a0 Z = true := hw _ (List.mem_of_getElem? (i := 64) rfl)
theorem t65 {a0 : Array Value} {Z : State} (hw : ∀ d ∈ tables_1, d.before a0 Z = true) : Jvm.Cond.before (Jvm.Cond.methodLink "com/example/vestline/vestline/HoursHistoriesYearsAndHoursPinLaw" (24 : Nat) ({ cls := "com/example/vestline/vestline/HoursHistories", name := "yearsAndHours", desc := "(I)[I" } : Jvm.MethodName)) a0 Z = true := hw _ (List.mem_of_getElem? (i := 65) rfl)
theorem t66 {a0 : Array Value} {Z : State} (hw : ∀ d ∈ tables_1, d.before a0 Z = true) : Jvm.Cond.before (Jvm.Cond.declares ({ cls := "com/example/vestline/vestline/HoursHistories", name := "yearsAndHours", desc := "(I)[I" } : Jvm.MethodName)) a0 Z = true := hw _ (List.mem_of_getElem? (i := 66) rfl)
theorem t67 {a0 : Array Value} {Z : State} (hw : ∀ d ∈ tables_1, d.before a0 Z = true) : Jvm.Cond.before (Jvm.Cond.instanceMethod ({ cls := "com/example/vestline/vestline/HoursHistories", name := "yearsAndHours", desc := "(I)[I" } : Jvm.MethodName)) a0 Z = true := hw _ (List.mem_of_getElem? (i := 67) rfl)
theorem t68 {a0 : Array Value} {Z : State} (hw : ∀ d ∈ tables_1, d.before a0 Z = true) : Jvm.Cond.before (Jvm.Cond.selects "com/example/vestline/vestline/HoursHistories" ({ cls := "com/example/vestline/vestline/HoursHistories", name := "yearsAndHours", desc := "(I)[I" } : Jvm.MethodName) ({ cls := "com/example/vestline/vestline/HoursHistories", name := "yearsAndHours", desc := "(I)[I" } : Jvm.MethodName)) a0 Z = true := hw _ (List.mem_of_getElem? (i := 68) rfl)
theorem t69 {a0 : Array Value} {Z : State} (hw : ∀ d ∈ tables_1, d.before a0 Z = true) : Jvm.Cond.before (Jvm.Cond.code ({ cls := "com/example/vestline/vestline/HoursHistories", name := "yearsAndHours", desc := "(I)[I" } : Jvm.MethodName) prog_12_method_11_code (6 : Nat) (Option.some (Jvm.ClassFile.FieldType.array Jvm.ClassFile.FieldType.int))) a0 Z = true := hw _ (List.mem_of_getElem? (i := 69) rfl)
theorem t70 {a0 : Array Value} {Z : State} (hw : ∀ d ∈ tables_1, d.before a0 Z = true) : Jvm.Cond.before (Jvm.Cond.methodLink "com/example/vestline/vestline/HoursHistories" (40 : Nat) ({ cls := "com/example/vestline/vestline/HoursHistories", name := "field", desc := "(II)I" } : Jvm.MethodName)) a0 Z = true := hw _ (List.mem_of_getElem? (i := 70) rfl)
theorem t71 {a0 : Array Value} {Z : State} (hw : ∀ d ∈ tables_1, d.before a0 Z = true) : Jvm.Cond.before (Jvm.Cond.instanceMethod ({ cls := "com/example/vestline/vestline/HoursHistories", name := "field", desc := "(II)I" } : Jvm.MethodName)) a0 Z = true := hw _ (List.mem_of_getElem? (i := 71) rfl)
theorem t72 {a0 : Array Value} {Z : State} (hw : ∀ d ∈ tables_1, d.before a0 Z = true) : Jvm.Cond.before (Jvm.Cond.privateMethod ({ cls := "com/example/vestline/vestline/HoursHistories", name := "field", desc := "(II)I" } : Jvm.MethodName)) a0 Z = true := hw _ (List.mem_of_getElem? (i := 72) rfl)
theorem t73 {a0 : Array Value} {Z : State} (hw : ∀ d ∈ tables_1, d.before a0 Z = true) : Jvm.Cond.before (Jvm.Cond.code ({ cls := "com/example/vestline/vestline/HoursHistories", name := "field", desc := "(II)I" } : Jvm.MethodName) prog_12_method_13_code (3 : Nat) (Option.some Jvm.ClassFile.FieldType.int)) a0 Z = true := hw _ (List.mem_of_getElem? (i := 73) rfl)
theorem t74 {a0 : Array Value} {Z : State} (hw : ∀ d ∈ tables_1, d.before a0 Z = true) : Jvm.Cond.before (Jvm.Cond.methodLink "com/example/vestline/vestline/HoursHistoriesYearsAndHoursPinLaw" (28 : Nat) ({ cls := "com/example/vestline/vestline/HoursHistoriesYearsAndHoursPinLaw", name := "same", desc := "([I[II)Z" } : Jvm.MethodName)) a0 Z = true := hw _ (List.mem_of_getElem? (i := 74) rfl)
theorem t75 {a0 : Array Value} {Z : State} (hw : ∀ d ∈ tables_1, d.before a0 Z = true) : Jvm.Cond.before (Jvm.Cond.static ({ cls := "com/example/vestline/vestline/HoursHistoriesYearsAndHoursPinLaw", name := "same", desc := "([I[II)Z" } : Jvm.MethodName)) a0 Z = true := hw _ (List.mem_of_getElem? (i := 75) rfl)
theorem t76 {a0 : Array Value} {Z : State} (hw : ∀ d ∈ tables_1, d.before a0 Z = true) : Jvm.Cond.before (Jvm.Cond.code ({ cls := "com/example/vestline/vestline/HoursHistoriesYearsAndHoursPinLaw", name := "same", desc := "([I[II)Z" } : Jvm.MethodName) method_4_code (3 : Nat) (Option.some Jvm.ClassFile.FieldType.boolean)) a0 Z = true := hw _ (List.mem_of_getElem? (i := 76) rfl)
theorem pd0 : parseMethodDescriptor "(II)I" = some ⟨[.int, .int], some .int⟩ := by decide +kernel
theorem pd1 : parseMethodDescriptor "(III)V" = some ⟨[.int, .int, .int], none⟩ := by decide +kernel
theorem pd2 : parseMethodDescriptor "([II)[I" = some ⟨[(.array .int), .int], some (.array .int)⟩ := by decide +kernel
theorem pd3 : parseMethodDescriptor "([III)[I" = some ⟨[(.array .int), .int, .int], some (.array .int)⟩ := by decide +kernel
theorem pd4 : parseMethodDescriptor "([IIII)V" = some ⟨[(.array .int), .int, .int, .int], none⟩ := by decide +kernel
theorem pd5 : parseMethodDescriptor "([IIIII)V" = some ⟨[(.array .int), .int, .int, .int, .int], none⟩ := by decide +kernel
theorem pd6 : parseMethodDescriptor "()V" = some ⟨[], none⟩ := by decide +kernel
theorem pd7 : parseMethodDescriptor "()I" = some ⟨[], some .int⟩ := by decide +kernel
theorem pd8 : parseMethodDescriptor "(I)[I" = some ⟨[.int], some (.array .int)⟩ := by decide +kernel
theorem pd9 : parseMethodDescriptor "([I[II)Z" = some ⟨[(.array .int), (.array .int), .int], some .boolean⟩ := by decide +kernel
theorem pd10 : parseMethodDescriptor "([IIII)I" = some ⟨[(.array .int), .int, .int, .int], some .int⟩ := by decide +kernel
theorem pn0 : plainName "java/util/Arrays" = true := by first | (simp [plainName, overriddenIn]; done) | decide +kernel
theorem pn1 : plainName "com/example/vestline/vestline/HoursHistories" = true := by first | (simp [plainName, overriddenIn]; done) | decide +kernel
theorem pn2 : plainName "com/example/vestline/vestline/HoursHistoriesYearsAndHoursPinLaw" = true := by first | (simp [plainName, overriddenIn]; done) | decide +kernel
/-! HoursHistories, as lists of ints -/
def fillL (x : Int32) : Nat → Nat → List Int32 → List Int32
  | 0, _, vs => vs
  | k + 1, i, vs => fillL x k (i + 1) (vs.set i x)
def lnkP (v k : Int32) (pN : Nat) (ps : List Int32) : List Int32 := if v = -1 then (ps.set (6 * pN) k).set (6 * pN + 1) k else ps.set (6 * pN + 1) k
def lnkY (v k : Int32) (c : Nat) (zs : List Int32) : List Int32 := if v = -1 then zs.set (3 * c + 2) (-1) else (zs.set (3 * c + 2) (-1)).set (3 * v.toInt.toNat + 2) k
theorem own_ofNat {i : Nat} (h : i < 2 ^ 31) : (Int32.ofNat i).toInt = i := Int32.toInt_ofNat_of_lt h
theorem own_inc (i : Nat) : Int32.ofNat i + (1 : Int32) = Int32.ofNat (i + 1) := by
  rw [Int32.ofNat_add]; rfl
theorem own_irrefl (x : Int32) : ¬ x < x := by rw [Int32.lt_iff_toInt_lt]; omega
/-- a place of a participant's ints -/
theorem own_ixP {q : Int32} {n : Nat} (f : Int32) (fN : Nat) (h : q.toInt = n) (hn : n < 4) (hf : f.toInt = fN) (hf6 : fN < 6) : ((q * (6 : Int32)) + f).toInt = ((6 * n + fN : Nat) : Int) := by
  have a := c_imul q 6
  have b := c_iadd (q * (6 : Int32)) f
  have r := rng32 (q * (6 : Int32))
  have r2 := rng32 ((q * (6 : Int32)) + f)
  simp only [Int32.reduceToInt] at a
  rw [h] at a
  rw [hf] at b
  omega
theorem own_ixY {q : Int32} {n : Nat} (f : Int32) (fN : Nat) (h : q.toInt = n) (hn : n < 4) (hf : f.toInt = fN) (hf6 : fN < 6) : ((q * (3 : Int32)) + f).toInt = ((3 * n + fN : Nat) : Int) := by
  have a := c_imul q 3
  have b := c_iadd (q * (3 : Int32)) f
  have r := rng32 (q * (3 : Int32))
  have r2 := rng32 ((q * (3 : Int32)) + f)
  simp only [Int32.reduceToInt] at a
  rw [h] at a
  rw [hf] at b
  omega
theorem own_at {vs : List Int32} {i : Nat} {x : Int32} (h : vs[i]? = some x) : (vs.map Value.int)[i]? = some (.int x) := by simp [h]
theorem own_nelen {n : Int32} {N k : Nat} (h : n.toInt = N) (hk : k < N) (hN : N < 2 ^ 31) : ¬ n = k.toInt32 := by
  intro q
  have e : k.toInt32.toInt = k := len_toInt (by omega)
  rw [q, e] at h
  omega
theorem own_minlen {n : Int32} {N k : Nat} (h : n.toInt = N) (hk : k < N) (hN : N < 2 ^ 31) : ¬ n < k.toInt32 := by
  have e : k.toInt32.toInt = k := len_toInt (by omega)
  rw [Int32.lt_iff_toInt_lt, h, e]
  omega
/-- the object: its class, its two arrays and counters -/
def HS (Z : State) (h : Heap) (n0 : Nat) (a P Y : Addr) (k c : Int32) (ps ys : List Int32) : Prop :=
  (Exa Z h a "com/example/vestline/vestline/HoursHistories" ∧ Kn h a ∧ n0 ≤ a) ∧ (Fld Z h a "com/example/vestline/vestline/HoursHistories" "participants" "[I" (.ref P) ∧ Fld Z h a "com/example/vestline/vestline/HoursHistories" "participantCount" "I" (.int k) ∧ Fld Z h a "com/example/vestline/vestline/HoursHistories" "years" "[I" (.ref Y) ∧ Fld Z h a "com/example/vestline/vestline/HoursHistories" "yearCount" "I" (.int c)) ∧ (Arl Z h P .int (ps.map Value.int) ∧ Arl Z h Y .int (ys.map Value.int)) ∧ (n0 ≤ P ∧ n0 ≤ Y) ∧ P ≠ Y ∧ P ≠ a ∧ Y ≠ a
def tw (P : Prop) [Decidable P] : Int32 := if P then (1 : Int32) else (0 : Int32)
theorem tw01 (P : Prop) [Decidable P] : tw P = 0 ∨ tw P = 1 := by unfold tw; split <;> simp
theorem tw_n {P : Prop} [Decidable P] (h : P) : tw (¬ P) = 0 := if_neg (fun q => q h)
theorem tw_p {P : Prop} [Decidable P] (h : ¬ P) : tw (¬ P) = 1 := if_pos h
theorem own_and3 (x : Int32) : (x &&& (3 : Int32)) = 0 ∨ (x &&& (3 : Int32)) = 1 ∨ (x &&& (3 : Int32)) = 2 ∨ (x &&& (3 : Int32)) = 3 := by
  have e : (x &&& (3 : Int32)).toInt = x.toInt % 4 := c_mask x 3 2 (by decide) (by decide)
  simp only [← Int32.toInt_inj, e, Int32.reduceToInt]
  omega
theorem lnkP_n {k : Int32} {q : Nat} {ps : List Int32} : lnkP (-1) k q ps = (ps.set (6 * q) k).set (6 * q + 1) k := if_pos rfl
theorem lnkP_s {v k : Int32} {q : Nat} {ps : List Int32} (h : ¬ v = -1) : lnkP v k q ps = ps.set (6 * q + 1) k := if_neg h
theorem lnkY_n {k : Int32} {j : Nat} {zs : List Int32} : lnkY (-1) k j zs = zs.set (3 * j + 2) (-1) := if_pos rfl
theorem lnkY_s {v k : Int32} {j : Nat} {zs : List Int32} (h : ¬ v = -1) : lnkY v k j zs = (zs.set (3 * j + 2) (-1)).set (3 * v.toInt.toNat + 2) k := if_neg h
theorem HS.keep {Z : State} {h h' : Heap} {n0 : Nat} {a P Y : Addr} {k j : Int32} {ps ys : List Int32} {ws : List Addr} (S : HS Z h n0 a P Y k j ps ys) (K : Keep h h' ws) (qa : a ∉ ws) (qP : P ∉ ws) (qY : Y ∉ ws) : HS Z h' n0 a P Y k j ps ys := by
  obtain ⟨⟨E, N, hn⟩, ⟨F_p, F_k, F_y, F_c⟩, ⟨A_P, A_Y⟩, ⟨nP, nY⟩, hPY, hPa, hYa⟩ := S
  exact ⟨⟨Exa.keep E K, N.keep K, hn⟩, ⟨Fld.keep F_p K qa, Fld.keep F_k K qa, Fld.keep F_y K qa, Fld.keep F_c K qa⟩, ⟨A_P.keep K qP, A_Y.keep K qY⟩, ⟨nP, nY⟩, hPY, hPa, hYa⟩
theorem far {x r n : Nat} (h : x < n) (g : n ≤ r) : x ≠ r := by omega
theorem d12_0 : decode jdk_29_method_28_code 0 = .ok (.iload_n 0, 1) := by decide +kernel
theorem d12_1 : decode jdk_29_method_28_code 1 = .ok (.i2l, 1) := by decide +kernel
theorem d12_2 : decode jdk_29_method_28_code 2 = .ok (.iload_n 1, 1) := by decide +kernel
theorem d12_3 : decode jdk_29_method_28_code 3 = .ok (.i2l, 1) := by decide +kernel
theorem d12_4 : decode jdk_29_method_28_code 4 = .ok (.lmul, 1) := by decide +kernel
theorem d12_5 : decode jdk_29_method_28_code 5 = .ok (.lstore_n 2, 1) := by decide +kernel
theorem d12_6 : decode jdk_29_method_28_code 6 = .ok (.lload_n 2, 1) := by decide +kernel
theorem d12_7 : decode jdk_29_method_28_code 7 = .ok (.l2i, 1) := by decide +kernel
theorem d12_8 : decode jdk_29_method_28_code 8 = .ok (.i2l, 1) := by decide +kernel
theorem d12_9 : decode jdk_29_method_28_code 9 = .ok (.lload_n 2, 1) := by decide +kernel
theorem d12_10 : decode jdk_29_method_28_code 10 = .ok (.lcmp, 1) := by decide +kernel
theorem d12_11 : decode jdk_29_method_28_code 11 = .ok (.ifCond .eq 13, 3) := by decide +kernel
theorem d12_24 : decode jdk_29_method_28_code 24 = .ok (.lload_n 2, 1) := by decide +kernel
theorem d12_25 : decode jdk_29_method_28_code 25 = .ok (.l2i, 1) := by decide +kernel
theorem d12_26 : decode jdk_29_method_28_code 26 = .ok (.ireturn, 1) := by decide +kernel
set_option maxRecDepth 65536 in
set_option maxHeartbeats 40000000 in
theorem con_mul (l : Launch) (Z : State) (a0 : Array Value) (hw : ∀ d ∈ tables_1, d.before a0 Z = true) (ws : List Jvm.Cond) (h0 : Heap) (n0 : Nat) (x y : Int32) (hz : (x.toInt64 * y.toInt64).toInt32.toInt64 = (x.toInt64 * y.toInt64)) :
    Con l (⟨"java/lang/Math", "multiplyExact", "(II)I"⟩ : MethodName) jdk_29_method_28_code 4 (some .int) ({ frames := 0, cells := 0, slots := 0, locals := 0 } : Room) ws Z #[(.int x), (.int y)] h0 n0 (fun v h => v = some (.int ((x.toInt64 * y.toInt64).toInt32)) ∧ h0 = h) := by
  refine Con.of (by decide +kernel) ?_
  intro p e s m below meth c T X nm
  rw [show entryFrame m #[(.int x), (.int y)] 4 = mkF m 0 #[.val (.int x), .val (.int y), .unset, .unset] [] from by (first | (simp [entryFrame, mkF, argsToLocals, Value.category]; done) | rfl)]
  refine Wk.iloadN X d12_0 1 rfl rfl ?_
  refine Wk.i2l X d12_1 2 rfl ?_
  refine Wk.iloadN X d12_2 3 rfl rfl ?_
  refine Wk.i2l X d12_3 4 rfl ?_
  refine Wk.lmul X d12_4 5 rfl ?_
  refine Wk.lstoreN X d12_5 6 rfl #[.val (.int x), .val (.int y), .val (.long ((x.toInt64) * (y.toInt64))), .second] rfl ?_
  refine Wk.lloadN X d12_6 7 rfl rfl ?_
  refine Wk.l2i X d12_7 8 rfl ?_
  refine Wk.i2l X d12_8 9 rfl ?_
  refine Wk.lloadN X d12_9 10 rfl rfl ?_
  refine Wk.lcmp X d12_10 11 rfl ?_
  refine Wk.ifcT X d12_11 24 (by decide) (show (if ((((x.toInt64) * (y.toInt64)).toInt32).toInt64) > ((x.toInt64) * (y.toInt64)) then 1 else if ((((x.toInt64) * (y.toInt64)).toInt32).toInt64) = ((x.toInt64) * (y.toInt64)) then 0 else -1) = (0 : Int32) from (by rw [hz, if_neg Int64.lt_irrefl, if_pos rfl])) ?_
  refine Wk.lloadN X d12_24 25 rfl rfl ?_
  refine Wk.l2i X d12_25 26 rfl ?_
  exact Wk.ireturn X d12_26 (by decide) (by decide) ⟨rfl, rfl⟩
theorem d15_0 : decode jdk_29_method_65_code 0 = .ok (.iload_n 0, 1) := by decide +kernel
theorem d15_1 : decode jdk_29_method_65_code 1 = .ok (.iload_n 1, 1) := by decide +kernel
theorem d15_2 : decode jdk_29_method_65_code 2 = .ok (.if_icmp .lt 7, 3) := by decide +kernel
theorem d15_5 : decode jdk_29_method_65_code 5 = .ok (.iload_n 0, 1) := by decide +kernel
theorem d15_6 : decode jdk_29_method_65_code 6 = .ok (.goto 4, 3) := by decide +kernel
theorem d15_9 : decode jdk_29_method_65_code 9 = .ok (.iload_n 1, 1) := by decide +kernel
theorem d15_10 : decode jdk_29_method_65_code 10 = .ok (.ireturn, 1) := by decide +kernel
set_option maxRecDepth 65536 in
set_option maxHeartbeats 40000000 in
theorem con_max (l : Launch) (Z : State) (a0 : Array Value) (hw : ∀ d ∈ tables_1, d.before a0 Z = true) (ws : List Jvm.Cond) (h0 : Heap) (n0 : Nat) (x y : Int32) :
    Con l (⟨"java/lang/Math", "max", "(II)I"⟩ : MethodName) jdk_29_method_65_code 2 (some .int) ({ frames := 0, cells := 0, slots := 0, locals := 0 } : Room) ws Z #[(.int x), (.int y)] h0 n0 (fun v h => v = some (.int (if x < y then y else x)) ∧ h0 = h) := by
  refine Con.of (by decide +kernel) ?_
  intro p e s m below meth c T X nm
  rw [show entryFrame m #[(.int x), (.int y)] 2 = mkF m 0 #[.val (.int x), .val (.int y)] [] from by (first | (simp [entryFrame, mkF, argsToLocals, Value.category]; done) | rfl)]
  refine Wk.iloadN X d15_0 1 rfl rfl ?_
  refine Wk.iloadN X d15_1 2 rfl rfl ?_
  refine Wk.icmp X d15_2 9 5 (by decide) rfl ?_ ?_
  · intro hc; change x < y at hc
    refine Wk.iloadN X d15_9 10 rfl rfl ?_
    exact Wk.ireturn X d15_10 (by decide) (by decide) ⟨by simp [hc], rfl⟩
  · intro hc; change ¬ x < y at hc
    refine Wk.iloadN X d15_5 6 rfl rfl ?_
    refine Wk.goto X d15_6 10 (by decide) ?_
    exact Wk.ireturn X d15_10 (by decide) (by decide) ⟨by simp [hc], rfl⟩
theorem d21_0 : decode jdk_29_method_69_code 0 = .ok (.iload_n 0, 1) := by decide +kernel
theorem d21_1 : decode jdk_29_method_69_code 1 = .ok (.iload_n 1, 1) := by decide +kernel
theorem d21_2 : decode jdk_29_method_69_code 2 = .ok (.if_icmp .gt 7, 3) := by decide +kernel
theorem d21_5 : decode jdk_29_method_69_code 5 = .ok (.iload_n 0, 1) := by decide +kernel
theorem d21_6 : decode jdk_29_method_69_code 6 = .ok (.goto 4, 3) := by decide +kernel
theorem d21_9 : decode jdk_29_method_69_code 9 = .ok (.iload_n 1, 1) := by decide +kernel
theorem d21_10 : decode jdk_29_method_69_code 10 = .ok (.ireturn, 1) := by decide +kernel
set_option maxRecDepth 65536 in
set_option maxHeartbeats 40000000 in
theorem con_min (l : Launch) (Z : State) (a0 : Array Value) (hw : ∀ d ∈ tables_1, d.before a0 Z = true) (ws : List Jvm.Cond) (h0 : Heap) (n0 : Nat) (x y : Int32) :
    Con l (⟨"java/lang/Math", "min", "(II)I"⟩ : MethodName) jdk_29_method_69_code 2 (some .int) ({ frames := 0, cells := 0, slots := 0, locals := 0 } : Room) ws Z #[(.int x), (.int y)] h0 n0 (fun v h => v = some (.int (if y < x then y else x)) ∧ h0 = h) := by
  refine Con.of (by decide +kernel) ?_
  intro p e s m below meth c T X nm
  rw [show entryFrame m #[(.int x), (.int y)] 2 = mkF m 0 #[.val (.int x), .val (.int y)] [] from by (first | (simp [entryFrame, mkF, argsToLocals, Value.category]; done) | rfl)]
  refine Wk.iloadN X d21_0 1 rfl rfl ?_
  refine Wk.iloadN X d21_1 2 rfl rfl ?_
  refine Wk.icmp X d21_2 9 5 (by decide) rfl ?_ ?_
  · intro hc; change y < x at hc
    refine Wk.iloadN X d21_9 10 rfl rfl ?_
    exact Wk.ireturn X d21_10 (by decide) (by decide) ⟨by simp [hc], rfl⟩
  · intro hc; change ¬ y < x at hc
    refine Wk.iloadN X d21_5 6 rfl rfl ?_
    refine Wk.goto X d21_6 10 (by decide) ?_
    exact Wk.ireturn X d21_10 (by decide) (by decide) ⟨by simp [hc], rfl⟩
theorem d18_0 : decode jdk_65_method_123_code 0 = .ok (.iload_n 1, 1) := by decide +kernel
theorem d18_1 : decode jdk_65_method_123_code 1 = .ok (.aload_n 0, 1) := by decide +kernel
theorem d18_2 : decode jdk_65_method_123_code 2 = .ok (.arraylength, 1) := by decide +kernel
theorem d18_3 : decode jdk_65_method_123_code 3 = .ok (.if_icmp .ne 11, 3) := by decide +kernel
theorem d18_14 : decode jdk_65_method_123_code 14 = .ok (.iload_n 1, 1) := by decide +kernel
theorem d18_15 : decode jdk_65_method_123_code 15 = .ok (.newarray .int, 2) := by decide +kernel
theorem d18_17 : decode jdk_65_method_123_code 17 = .ok (.astore_n 2, 1) := by decide +kernel
theorem d18_18 : decode jdk_65_method_123_code 18 = .ok (.aload_n 0, 1) := by decide +kernel
theorem d18_19 : decode jdk_65_method_123_code 19 = .ok (.iconst 0, 1) := by decide +kernel
theorem d18_20 : decode jdk_65_method_123_code 20 = .ok (.aload_n 2, 1) := by decide +kernel
theorem d18_21 : decode jdk_65_method_123_code 21 = .ok (.iconst 0, 1) := by decide +kernel
theorem d18_22 : decode jdk_65_method_123_code 22 = .ok (.aload_n 0, 1) := by decide +kernel
theorem d18_23 : decode jdk_65_method_123_code 23 = .ok (.arraylength, 1) := by decide +kernel
theorem d18_24 : decode jdk_65_method_123_code 24 = .ok (.iload_n 1, 1) := by decide +kernel
theorem d18_25 : decode jdk_65_method_123_code 25 = .ok (.invokestatic 304, 3) := by decide +kernel
theorem d18_28 : decode jdk_65_method_123_code 28 = .ok (.invokestatic 150, 3) := by decide +kernel
theorem d18_31 : decode jdk_65_method_123_code 31 = .ok (.aload_n 2, 1) := by decide +kernel
theorem d18_32 : decode jdk_65_method_123_code 32 = .ok (.areturn, 1) := by decide +kernel
set_option maxRecDepth 65536 in
set_option maxHeartbeats 40000000 in
theorem con_copy (l : Launch) (Z : State) (a0 : Array Value) (hw : ∀ d ∈ tables_1, d.before a0 Z = true) (ws : List Jvm.Cond) (h0 : Heap) (n0 : Nat) (y : Addr) (vs : List Int32) (nl : Int32) (N : Nat) (hN : nl.toInt = N) (hlt : vs.length < N) (hc : N ≤ 24) (A : Arl Z h0 y .int (vs.map Value.int)) (Z0 : n0 ≤ h0.size) :
    Con l (⟨"java/util/Arrays", "copyOf", "([II)[I"⟩ : MethodName) jdk_65_method_123_code 3 (some (.array .int)) ({ frames := 1, cells := 1, slots := 24, locals := 18 } : Room) ws Z #[(.ref y), (.int nl)] h0 n0 (fun v h => ∃ r, v = some (.ref r) ∧ h0.size ≤ r ∧ Keep h0 h [] ∧ Arl Z h r .int ((vs ++ List.replicate (N - vs.length) 0).map Value.int)) := by
  refine Con.of (plainFor_of_name pn0) ?_
  intro p e s m below meth c T X nm
  rw [show entryFrame m #[(.ref y), (.int nl)] 3 = mkF m 0 #[.val (.ref y), .val (.int nl), .unset] [] from by (first | (simp [entryFrame, mkF, argsToLocals, Value.category]; done) | rfl)]
  have hl : (vs.map Value.int).length = vs.length := by simp
  have hv : vs.length < 2 ^ 31 := by simpa using A.len
  refine Wk.iloadN X d18_0 1 rfl rfl ?_
  refine Wk.aloadN X d18_1 2 rfl rfl rfl ?_
  refine Wk.arraylength X A d18_2 3 rfl vs.length.toInt32 (by rw [hl]) ?_
  refine Wk.icmpT X d18_3 14 (by decide) (show ¬ nl = vs.length.toInt32 from (own_nelen hN hlt (by omega))) ?_
  refine Wk.iloadN X d18_14 15 rfl rfl ?_
  refine Wk.newarray (aty := .int) X (t9 hw) d18_15 17 rfl N hN 24 hc (by decide) (by decide) (by decide) ?_
  intro T h1 r gr X E1 B
  change Arl Z h1 r .int (List.replicate N (.int 0)) at B
  have A1 := A.ext E1
  have hr : n0 ≤ r := by omega
  have hr0 : h0.size ≤ r := by omega
  have K1 : Keep h0 h1 [] := (Keep.refl _ _).ext E1
  refine Wk.astoreN X d18_17 18 rfl #[.val (.ref y), .val (.int nl), .val (.ref r)] rfl rfl ?_
  refine Wk.aloadN X d18_18 19 rfl rfl rfl ?_
  refine Wk.iconst X d18_19 20 rfl (0 : Int32) rfl ?_
  refine Wk.aloadN X d18_20 21 rfl rfl rfl ?_
  refine Wk.iconst X d18_21 22 rfl (0 : Int32) rfl ?_
  refine Wk.aloadN X d18_22 23 rfl rfl rfl ?_
  refine Wk.arraylength X A1 d18_23 24 rfl vs.length.toInt32 (by rw [hl]) ?_
  refine Wk.iloadN X d18_24 25 rfl rfl ?_
  refine Wk.callS X (t37 hw) (t38 hw) (t28 hw) (t39 hw) (con_min l Z a0 hw [] h1 n0 vs.length.toInt32 nl) (by decide) pd0 [(.int vs.length.toInt32), (.int nl)] [(.int (0 : Int32)), (.ref r), (.int (0 : Int32)), (.ref y)] rfl rfl rfl rfl 4 (Nat.le_of_eq rfl) (by decide) (by decide) (by decide) (by decide) 1 24 rfl rfl d18_25 28 rfl ?_
  rintro _ T _ X ⟨rfl, rfl⟩
  show Wk p.tables e below _ (T.setTop (mkF m 28 #[.val (.ref y), .val (.int nl), .val (.ref r)] [(.int (if nl < vs.length.toInt32 then nl else vs.length.toInt32)), (.int (0 : Int32)), (.ref r), (.int (0 : Int32)), (.ref y)]))
  refine Wk.topI vs.length.toInt32 (by rw [if_neg (own_minlen hN hlt (by omega))]) ?_
  refine Wk.copyI X (t40 hw) (t43 hw) (t41 hw) (t42 hw) A1 N B (Nat.le_of_lt hlt) hr (len_toInt hv) rfl 0 (Nat.le_of_eq rfl) (by decide) (by decide) d18_28 31 rfl ?_
  intro T h2 X K2 C
  refine Wk.aloadN X d18_31 32 rfl rfl rfl ?_
  exact Wk.areturn X d18_32 (by decide) (by decide) rfl rfl rfl ⟨r, rfl, hr0, K1.trans K2 (allS (Or.inr hr0) all0), by simpa using C⟩
theorem d27_0 : decode jdk_65_method_30_code 0 = .ok (.iload_n 1, 1) := by decide +kernel
theorem d27_1 : decode jdk_65_method_30_code 1 = .ok (.iload_n 2, 1) := by decide +kernel
theorem d27_2 : decode jdk_65_method_30_code 2 = .ok (.if_icmp .le 44, 3) := by decide +kernel
theorem d27_46 : decode jdk_65_method_30_code 46 = .ok (.iload_n 1, 1) := by decide +kernel
theorem d27_47 : decode jdk_65_method_30_code 47 = .ok (.ifCond .ge 12, 3) := by decide +kernel
theorem d27_59 : decode jdk_65_method_30_code 59 = .ok (.iload_n 2, 1) := by decide +kernel
theorem d27_60 : decode jdk_65_method_30_code 60 = .ok (.iload_n 0, 1) := by decide +kernel
theorem d27_61 : decode jdk_65_method_30_code 61 = .ok (.if_icmp .le 12, 3) := by decide +kernel
theorem d27_73 : decode jdk_65_method_30_code 73 = .ok (.return_, 1) := by decide +kernel
set_option maxRecDepth 65536 in
set_option maxHeartbeats 40000000 in
theorem con_rc (l : Launch) (Z : State) (a0 : Array Value) (hw : ∀ d ∈ tables_1, d.before a0 Z = true) (ws : List Jvm.Cond) (h0 : Heap) (n0 : Nat) (x y z : Int32) (h1 : ¬ z < y) (h2 : ¬ y < 0) (h3 : ¬ x < z) :
    Con l (⟨"java/util/Arrays", "rangeCheck", "(III)V"⟩ : MethodName) jdk_65_method_30_code 3 none ({ frames := 0, cells := 0, slots := 0, locals := 0 } : Room) ws Z #[(.int x), (.int y), (.int z)] h0 n0 (fun v h => v = none ∧ h0 = h) := by
  refine Con.of (plainFor_of_name pn0) ?_
  intro p e s m below meth c T X nm
  rw [show entryFrame m #[(.int x), (.int y), (.int z)] 3 = mkF m 0 #[.val (.int x), .val (.int y), .val (.int z)] [] from by (first | (simp [entryFrame, mkF, argsToLocals, Value.category]; done) | rfl)]
  refine Wk.iloadN X d27_0 1 rfl rfl ?_
  refine Wk.iloadN X d27_1 2 rfl rfl ?_
  refine Wk.icmpT X d27_2 46 (by decide) (show ¬ z < y from h1) ?_
  refine Wk.iloadN X d27_46 47 rfl rfl ?_
  refine Wk.ifcT X d27_47 59 (by decide) (show ¬ y < (0 : Int32) from h2) ?_
  refine Wk.iloadN X d27_59 60 rfl rfl ?_
  refine Wk.iloadN X d27_60 61 rfl rfl ?_
  refine Wk.icmpT X d27_61 73 (by decide) (show ¬ x < z from h3) ?_
  exact Wk.vreturn X d27_73 (by decide) (by decide) ⟨rfl, rfl⟩
theorem d24_0 : decode jdk_65_method_104_code 0 = .ok (.aload_n 0, 1) := by decide +kernel
theorem d24_1 : decode jdk_65_method_104_code 1 = .ok (.arraylength, 1) := by decide +kernel
theorem d24_2 : decode jdk_65_method_104_code 2 = .ok (.iload_n 1, 1) := by decide +kernel
theorem d24_3 : decode jdk_65_method_104_code 3 = .ok (.iload_n 2, 1) := by decide +kernel
theorem d24_4 : decode jdk_65_method_104_code 4 = .ok (.invokestatic 13, 3) := by decide +kernel
theorem d24_7 : decode jdk_65_method_104_code 7 = .ok (.iload_n 1, 1) := by decide +kernel
theorem d24_8 : decode jdk_65_method_104_code 8 = .ok (.istore 4, 2) := by decide +kernel
theorem d24_10 : decode jdk_65_method_104_code 10 = .ok (.iload 4, 2) := by decide +kernel
theorem d24_12 : decode jdk_65_method_104_code 12 = .ok (.iload_n 2, 1) := by decide +kernel
theorem d24_13 : decode jdk_65_method_104_code 13 = .ok (.if_icmp .ge 14, 3) := by decide +kernel
theorem d24_16 : decode jdk_65_method_104_code 16 = .ok (.aload_n 0, 1) := by decide +kernel
theorem d24_17 : decode jdk_65_method_104_code 17 = .ok (.iload 4, 2) := by decide +kernel
theorem d24_19 : decode jdk_65_method_104_code 19 = .ok (.iload_n 3, 1) := by decide +kernel
theorem d24_20 : decode jdk_65_method_104_code 20 = .ok (.iastore, 1) := by decide +kernel
theorem d24_21 : decode jdk_65_method_104_code 21 = .ok (.iinc 4 1, 3) := by decide +kernel
theorem d24_24 : decode jdk_65_method_104_code 24 = .ok (.goto (-14), 3) := by decide +kernel
theorem d24_27 : decode jdk_65_method_104_code 27 = .ok (.return_, 1) := by decide +kernel
set_option maxRecDepth 65536 in
set_option maxHeartbeats 40000000 in
theorem con_fill (l : Launch) (Z : State) (a0 : Array Value) (hw : ∀ d ∈ tables_1, d.before a0 Z = true) (ws : List Jvm.Cond) (h0 : Heap) (n0 : Nat) (y : Addr) (vs : List Int32) (f t : Nat) (x : Int32) (hft : f ≤ t) (htl : t ≤ vs.length) (hn : n0 ≤ y) (A : Arl Z h0 y .int (vs.map Value.int)) :
    Con l (⟨"java/util/Arrays", "fill", "([IIII)V"⟩ : MethodName) jdk_65_method_104_code 5 none ({ frames := 1, cells := 0, slots := 0, locals := 14 } : Room) ws Z #[(.ref y), (.int (Int32.ofNat f)), (.int (Int32.ofNat t)), (.int x)] h0 n0 (fun v h => v = none ∧ Keep h0 h [y] ∧ Arl Z h y .int ((fillL x (t - f) f vs).map Value.int)) := by
  refine Con.of (plainFor_of_name pn0) ?_
  intro p e s m below meth c T X nm
  rw [show entryFrame m #[(.ref y), (.int (Int32.ofNat f)), (.int (Int32.ofNat t)), (.int x)] 5 = mkF m 0 #[.val (.ref y), .val (.int (Int32.ofNat f)), .val (.int (Int32.ofNat t)), .val (.int x), .unset] [] from by (first | (simp [entryFrame, mkF, argsToLocals, Value.category]; done) | rfl)]
  have hv : vs.length < 2 ^ 31 := by simpa using A.len
  refine Wk.aloadN X d24_0 1 rfl rfl rfl ?_
  refine Wk.arraylength X A d24_1 2 rfl vs.length.toInt32 (by simp) ?_
  refine Wk.iloadN X d24_2 3 rfl rfl ?_
  refine Wk.iloadN X d24_3 4 rfl rfl ?_
  refine Wk.callS X (t47 hw) (t48 hw) (t35 hw) (t49 hw) (con_rc l Z a0 hw [] h0 n0 vs.length.toInt32 (Int32.ofNat f) (Int32.ofNat t) (by rw [Int32.lt_iff_toInt_lt, own_ofNat (by omega), own_ofNat (by omega)]; omega) (by rw [Int32.lt_iff_toInt_lt, own_ofNat (by omega)]; simp only [Int32.reduceToInt]; omega) (by rw [Int32.lt_iff_toInt_lt, len_toInt hv, own_ofNat (by omega)]; omega)) (by decide) pd1 [(.int vs.length.toInt32), (.int (Int32.ofNat f)), (.int (Int32.ofNat t))] [] rfl rfl rfl rfl 0 (Nat.le_of_eq rfl) (by decide) (by decide) (by decide) (by decide) 0 0 rfl rfl d24_4 7 rfl ?_
  rintro _ T _ X ⟨rfl, rfl⟩
  show Wk p.tables e below _ (T.setTop (mkF m 7 #[.val (.ref y), .val (.int (Int32.ofNat f)), .val (.int (Int32.ofNat t)), .val (.int x), .unset] []))
  refine Wk.iloadN X d24_7 8 rfl rfl ?_
  refine Wk.istore X d24_8 10 rfl #[.val (.ref y), .val (.int (Int32.ofNat f)), .val (.int (Int32.ofNat t)), .val (.int x), .val (.int (Int32.ofNat f))] rfl ?_
  have loop : ∀ (k i : Nat) (us : List Int32) (T : State) (h : Heap), i + k = t → us.length = vs.length → Hr p l e ({ frames := 1, cells := 0, slots := 0, locals := 14 } : Room) s m #[(.ref y), (.int (Int32.ofNat f)), (.int (Int32.ofNat t)), (.int x)] below meth c Z "java/util/Arrays" jdk_65_method_104_code 5 n0 none T h 0 0 → Keep h0 h [y] → Arl Z h y .int (us.map Value.int) → fillL x k i us = fillL x (t - f) f vs → Wk p.tables e below (Gl s n0 (fun v h => v = none ∧ Keep h0 h [y] ∧ Arl Z h y .int ((fillL x (t - f) f vs).map Value.int)) 0 0) (T.setTop (mkF m 10 #[.val (.ref y), .val (.int (Int32.ofNat f)), .val (.int (Int32.ofNat t)), .val (.int x), .val (.int (Int32.ofNat i))] [])) := by
    intro k
    induction k with
    | zero =>
      intro i us T h hk hu X K B hF
      refine Wk.iload X d24_10 12 rfl rfl ?_
      refine Wk.iloadN X d24_12 13 rfl rfl ?_
      refine Wk.icmpT X d24_13 27 (by decide) (show ¬ (Int32.ofNat i) < (Int32.ofNat t) from (by rw [show i = t from by omega]; exact own_irrefl _)) ?_
      exact Wk.vreturn X d24_27 (by decide) (by decide) ⟨rfl, K, by rw [← hF]; exact B⟩
    | succ k ih =>
      intro i us T h hk hu X K B hF
      refine Wk.iload X d24_10 12 rfl rfl ?_
      refine Wk.iloadN X d24_12 13 rfl rfl ?_
      refine Wk.icmpF X d24_13 16 rfl (show (Int32.ofNat i) < (Int32.ofNat t) from (by rw [Int32.lt_iff_toInt_lt, own_ofNat (by omega), own_ofNat (by omega)]; omega)) ?_
      refine Wk.aloadN X d24_16 17 rfl rfl rfl ?_
      refine Wk.iload X d24_17 19 rfl rfl ?_
      refine Wk.iloadN X d24_19 20 rfl rfl ?_
      refine Wk.iastore X B hn i (own_ofNat (by omega)) (by simp; omega) d24_20 21 rfl ?_
      intro T h' X W
      have B' := B.set W
      refine Wk.iinc X d24_21 24 rfl #[.val (.ref y), .val (.int (Int32.ofNat f)), .val (.int (Int32.ofNat t)), .val (.int x), .val (.int ((Int32.ofNat i) + (1 : Int32)))] rfl rfl ?_
      refine Wk.goto X d24_24 10 (by decide) ?_
      rw [own_inc]
      exact ih (i + 1) (us.set i x) T h' (by omega) (by simpa using hu) X (K.wr W (Or.inl (List.mem_singleton.mpr rfl))) (by simpa [List.map_set] using B') (by rw [← hF]; rfl)
  exact loop (t - f) f vs T h0 (by omega) rfl X (Keep.refl _ _) A rfl
theorem d1_0 : decode prog_12_method_1_code 0 = .ok (.aload_n 0, 1) := by decide +kernel
theorem d1_1 : decode prog_12_method_1_code 1 = .ok (.invokespecial 1, 3) := by decide +kernel
theorem d1_4 : decode prog_12_method_1_code 4 = .ok (.aload_n 0, 1) := by decide +kernel
theorem d1_5 : decode prog_12_method_1_code 5 = .ok (.iconst 0, 1) := by decide +kernel
theorem d1_6 : decode prog_12_method_1_code 6 = .ok (.newarray .int, 2) := by decide +kernel
theorem d1_8 : decode prog_12_method_1_code 8 = .ok (.putfield 7, 3) := by decide +kernel
theorem d1_11 : decode prog_12_method_1_code 11 = .ok (.aload_n 0, 1) := by decide +kernel
theorem d1_12 : decode prog_12_method_1_code 12 = .ok (.iconst 0, 1) := by decide +kernel
theorem d1_13 : decode prog_12_method_1_code 13 = .ok (.newarray .int, 2) := by decide +kernel
theorem d1_15 : decode prog_12_method_1_code 15 = .ok (.putfield 13, 3) := by decide +kernel
theorem d1_18 : decode prog_12_method_1_code 18 = .ok (.aload_n 0, 1) := by decide +kernel
theorem d1_19 : decode prog_12_method_1_code 19 = .ok (.iconst 0, 1) := by decide +kernel
theorem d1_20 : decode prog_12_method_1_code 20 = .ok (.newarray .int, 2) := by decide +kernel
theorem d1_22 : decode prog_12_method_1_code 22 = .ok (.putfield 16, 3) := by decide +kernel
theorem d1_25 : decode prog_12_method_1_code 25 = .ok (.return_, 1) := by decide +kernel
set_option maxRecDepth 65536 in
set_option maxHeartbeats 40000000 in
theorem con_init (l : Launch) (Z : State) (a0 : Array Value) (hw : ∀ d ∈ tables_1, d.before a0 Z = true) (ws : List Jvm.Cond) (h0 : Heap) (n0 : Nat) (a : Addr) (E : Exa Z h0 a "com/example/vestline/vestline/HoursHistories") (N : Kn h0 a) (hn : n0 ≤ a) (F_k : Fld Z h0 a "com/example/vestline/vestline/HoursHistories" "participantCount" "I" (.int 0)) (F_c : Fld Z h0 a "com/example/vestline/vestline/HoursHistories" "yearCount" "I" (.int 0)) :
    Con l (⟨"com/example/vestline/vestline/HoursHistories", "<init>", "()V"⟩ : MethodName) prog_12_method_1_code 1 none ({ frames := 1, cells := 3, slots := 0, locals := 12 } : Room) ws Z #[(.ref a)] h0 n0 (fun v h => v = none ∧ Keep h0 h [a] ∧ ∃ P Y, HS Z h n0 a P Y 0 0 [] []) := by
  refine Con.of (plainFor_of_name pn1) ?_
  intro p e s m below meth c T X nm
  rw [show entryFrame m #[(.ref a)] 1 = mkF m 0 #[.val (.ref a)] [] from by (first | (simp [entryFrame, mkF, argsToLocals, Value.category]; done) | rfl)]
  refine Wk.aloadN X d1_0 1 rfl rfl rfl ?_
  have K := Keep.refl h0 [a]
  refine Wk.initO X (t6 hw) (t7 hw) (t8 hw) rfl d1_1 4 rfl (by decide) 0 (Nat.le_of_eq rfl) (by decide) ?_
  intro T X
  refine Wk.aloadN X d1_4 5 rfl rfl rfl ?_
  refine Wk.iconst X d1_5 6 rfl (0 : Int32) rfl ?_
  refine Wk.newarray (aty := .int) X (t9 hw) d1_6 8 rfl 0 rfl 0 (Nat.le_refl _) (by decide) (by decide) (by decide) ?_
  intro T h1 P gP X E1 A_P
  have ne_P : a ≠ P := ne_new (Exa.lt E) gP
  have nP : n0 ≤ P := nn_new hn (Exa.lt E) gP
  have E := Exa.ext E1 E
  have N := N.ext E1
  have F_k := Fld.ext E1 F_k
  have F_c := Fld.ext E1 F_c
  have K := K.ext E1
  refine Wk.putF X (t10 hw) Via.refl E N (Or.inl (t11 hw)) (t1 hw) (ty := (.array .int)) (by decide) rfl rfl hn d1_8 11 rfl ?_
  intro T h2 X W2 F_p_new
  have E := Exa.wr W2 E
  have N := N.wr W2
  have F_k := Fld.other W2 F_k (Or.inr (slot_ne (Or.inl (t22 hw)) (Or.inl (t11 hw)) (by decide) (t := .int) (t' := (.array .int)) (by decide) (by decide)))
  have F_c := Fld.other W2 F_c (Or.inr (slot_ne (Or.inl (t56 hw)) (Or.inl (t11 hw)) (by decide) (t := .int) (t' := (.array .int)) (by decide) (by decide)))
  have K := K.wr W2 (Or.inl (List.mem_singleton.mpr rfl))
  have A_P := A_P.other W2 (Ne.symm ne_P)
  have F_p := F_p_new
  refine Wk.aloadN X d1_11 12 rfl rfl rfl ?_
  refine Wk.iconst X d1_12 13 rfl (0 : Int32) rfl ?_
  refine Wk.newarray (aty := .int) X (t9 hw) d1_13 15 rfl 0 rfl 0 (Nat.le_refl _) (by decide) (by decide) (by decide) ?_
  intro T h3 Y gY X E3 A_Y
  have ne_Y : a ≠ Y := ne_new (Exa.lt E) gY
  have nY : n0 ≤ Y := nn_new hn (Exa.lt E) gY
  have hPY : P ≠ Y := ne_new A_P.lt gY
  have E := Exa.ext E3 E
  have N := N.ext E3
  have F_k := Fld.ext E3 F_k
  have F_c := Fld.ext E3 F_c
  have K := K.ext E3
  have A_P := A_P.ext E3
  have F_p := Fld.ext E3 F_p
  refine Wk.putF X (t12 hw) Via.refl E N (Or.inl (t13 hw)) (t1 hw) (ty := (.array .int)) (by decide) rfl rfl hn d1_15 18 rfl ?_
  intro T h4 X W4 F_y_new
  have E := Exa.wr W4 E
  have N := N.wr W4
  have F_k := Fld.other W4 F_k (Or.inr (slot_ne (Or.inl (t22 hw)) (Or.inl (t13 hw)) (by decide) (t := .int) (t' := (.array .int)) (by decide) (by decide)))
  have F_c := Fld.other W4 F_c (Or.inr (slot_ne (Or.inl (t56 hw)) (Or.inl (t13 hw)) (by decide) (t := .int) (t' := (.array .int)) (by decide) (by decide)))
  have K := K.wr W4 (Or.inl (List.mem_singleton.mpr rfl))
  have A_P := A_P.other W4 (Ne.symm ne_P)
  have F_p := Fld.other W4 F_p (Or.inr (slot_ne (Or.inl (t11 hw)) (Or.inl (t13 hw)) (by decide) (t := (.array .int)) (t' := (.array .int)) (by decide) (by decide)))
  have A_Y := A_Y.other W4 (Ne.symm ne_Y)
  have F_y := F_y_new
  refine Wk.aloadN X d1_18 19 rfl rfl rfl ?_
  refine Wk.iconst X d1_19 20 rfl (0 : Int32) rfl ?_
  refine Wk.newarray (aty := .int) X (t9 hw) d1_20 22 rfl 0 rfl 0 (Nat.le_refl _) (by decide) (by decide) (by decide) ?_
  intro T h5 V gV X E5 A_V
  have ne_V : a ≠ V := ne_new (Exa.lt E) gV
  have nV : n0 ≤ V := nn_new hn (Exa.lt E) gV
  have hPV : P ≠ V := ne_new A_P.lt gV
  have hYV : Y ≠ V := ne_new A_Y.lt gV
  have E := Exa.ext E5 E
  have N := N.ext E5
  have F_k := Fld.ext E5 F_k
  have F_c := Fld.ext E5 F_c
  have K := K.ext E5
  have A_P := A_P.ext E5
  have F_p := Fld.ext E5 F_p
  have A_Y := A_Y.ext E5
  have F_y := Fld.ext E5 F_y
  refine Wk.putF X (t14 hw) Via.refl E N (Or.inl (t15 hw)) (t1 hw) (ty := (.array .int)) (by decide) rfl rfl hn d1_22 25 rfl ?_
  intro T h6 X W6 F_v_new
  have E := Exa.wr W6 E
  have N := N.wr W6
  have F_k := Fld.other W6 F_k (Or.inr (slot_ne (Or.inl (t22 hw)) (Or.inl (t15 hw)) (by decide) (t := .int) (t' := (.array .int)) (by decide) (by decide)))
  have F_c := Fld.other W6 F_c (Or.inr (slot_ne (Or.inl (t56 hw)) (Or.inl (t15 hw)) (by decide) (t := .int) (t' := (.array .int)) (by decide) (by decide)))
  have K := K.wr W6 (Or.inl (List.mem_singleton.mpr rfl))
  have A_P := A_P.other W6 (Ne.symm ne_P)
  have F_p := Fld.other W6 F_p (Or.inr (slot_ne (Or.inl (t11 hw)) (Or.inl (t15 hw)) (by decide) (t := (.array .int)) (t' := (.array .int)) (by decide) (by decide)))
  have A_Y := A_Y.other W6 (Ne.symm ne_Y)
  have F_y := Fld.other W6 F_y (Or.inr (slot_ne (Or.inl (t13 hw)) (Or.inl (t15 hw)) (by decide) (t := (.array .int)) (t' := (.array .int)) (by decide) (by decide)))
  have A_V := A_V.other W6 (Ne.symm ne_V)
  have F_v := F_v_new
  exact Wk.vreturn X d1_25 (by decide) (by decide) ⟨rfl, K, P, Y, ⟨E, N, hn⟩, ⟨F_p, F_k, F_y, F_c⟩, ⟨A_P, A_Y⟩, ⟨nP, nY⟩, hPY, Ne.symm ne_P, Ne.symm ne_Y⟩
theorem d9_0 : decode prog_12_method_17_code 0 = .ok (.iload_n 1, 1) := by decide +kernel
theorem d9_1 : decode prog_12_method_17_code 1 = .ok (.iconst 1, 1) := by decide +kernel
theorem d9_2 : decode prog_12_method_17_code 2 = .ok (.iadd, 1) := by decide +kernel
theorem d9_3 : decode prog_12_method_17_code 3 = .ok (.iload_n 2, 1) := by decide +kernel
theorem d9_4 : decode prog_12_method_17_code 4 = .ok (.invokestatic 115, 3) := by decide +kernel
theorem d9_7 : decode prog_12_method_17_code 7 = .ok (.aload_n 0, 1) := by decide +kernel
theorem d9_8 : decode prog_12_method_17_code 8 = .ok (.arraylength, 1) := by decide +kernel
theorem d9_9 : decode prog_12_method_17_code 9 = .ok (.if_icmp .gt 5, 3) := by decide +kernel
theorem d9_14 : decode prog_12_method_17_code 14 = .ok (.aload_n 0, 1) := by decide +kernel
theorem d9_15 : decode prog_12_method_17_code 15 = .ok (.iload_n 2, 1) := by decide +kernel
theorem d9_16 : decode prog_12_method_17_code 16 = .ok (.aload_n 0, 1) := by decide +kernel
theorem d9_17 : decode prog_12_method_17_code 17 = .ok (.arraylength, 1) := by decide +kernel
theorem d9_18 : decode prog_12_method_17_code 18 = .ok (.iconst 2, 1) := by decide +kernel
theorem d9_19 : decode prog_12_method_17_code 19 = .ok (.invokestatic 115, 3) := by decide +kernel
theorem d9_22 : decode prog_12_method_17_code 22 = .ok (.invokestatic 118, 3) := by decide +kernel
theorem d9_25 : decode prog_12_method_17_code 25 = .ok (.invokestatic 121, 3) := by decide +kernel
theorem d9_28 : decode prog_12_method_17_code 28 = .ok (.areturn, 1) := by decide +kernel
set_option maxRecDepth 65536 in
set_option maxHeartbeats 40000000 in
theorem con_room_0_6 (l : Launch) (Z : State) (a0 : Array Value) (hw : ∀ d ∈ tables_1, d.before a0 Z = true) (ws : List Jvm.Cond) (h0 : Heap) (n0 : Nat) (y : Addr) (vs : List Int32) (hlen : vs.length = 0) (A : Arl Z h0 y .int (vs.map Value.int)) (Z0 : n0 ≤ h0.size) :
    Con l (⟨"com/example/vestline/vestline/HoursHistories", "room", "([III)[I"⟩ : MethodName) prog_12_method_17_code 3 (some (.array .int)) ({ frames := 2, cells := 1, slots := 24, locals := 32 } : Room) ws Z #[(.ref y), (.int (0 : Int32)), (.int (6 : Int32))] h0 n0 (fun v h => ∃ r, v = some (.ref r) ∧ h0.size ≤ r ∧ Keep h0 h [] ∧ Arl Z h r .int ((vs ++ List.replicate 6 0).map Value.int)) := by
  refine Con.of (plainFor_of_name pn1) ?_
  intro p e s m below meth c T X nm
  rw [show entryFrame m #[(.ref y), (.int (0 : Int32)), (.int (6 : Int32))] 3 = mkF m 0 #[.val (.ref y), .val (.int (0 : Int32)), .val (.int (6 : Int32))] [] from by (first | (simp [entryFrame, mkF, argsToLocals, Value.category]; done) | rfl)]
  have hl : (vs.map Value.int).length.toInt32 = (0 : Int32) := by rw [List.length_map, hlen]; rfl
  refine Wk.iloadN X d9_0 1 rfl rfl ?_
  refine Wk.iconst X d9_1 2 rfl (1 : Int32) rfl ?_
  refine Wk.iadd X d9_2 3 rfl ?_
  refine Wk.topI (1 : Int32) (by decide) ?_
  refine Wk.iloadN X d9_3 4 rfl rfl ?_
  refine Wk.callS X (t26 hw) (t27 hw) (t28 hw) (t29 hw) (con_mul l Z a0 hw [] h0 n0 1 6 (by decide)) (by decide) pd0 [(.int (1 : Int32)), (.int (6 : Int32))] [] rfl rfl rfl rfl 0 (Nat.le_of_eq rfl) (by decide) (by decide) (by decide) (by decide) 0 0 rfl rfl d9_4 7 rfl ?_
  rintro _ T _ X ⟨rfl, rfl⟩
  show Wk p.tables e below _ (T.setTop (mkF m 7 #[.val (.ref y), .val (.int (0 : Int32)), .val (.int (6 : Int32))] [(.int ((1 : Int32).toInt64 * (6 : Int32).toInt64).toInt32)]))
  refine Wk.topI (6 : Int32) (by decide) ?_
  refine Wk.aloadN X d9_7 8 rfl rfl rfl ?_
  refine Wk.arraylength X A d9_8 9 rfl (0 : Int32) hl ?_
  refine Wk.icmpT X d9_9 14 (by decide) (show (0 : Int32) < (6 : Int32) from (by decide)) ?_
  refine Wk.aloadN X d9_14 15 rfl rfl rfl ?_
  refine Wk.iloadN X d9_15 16 rfl rfl ?_
  refine Wk.aloadN X d9_16 17 rfl rfl rfl ?_
  refine Wk.arraylength X A d9_17 18 rfl (0 : Int32) hl ?_
  refine Wk.iconst X d9_18 19 rfl (2 : Int32) rfl ?_
  refine Wk.callS X (t26 hw) (t27 hw) (t28 hw) (t29 hw) (con_mul l Z a0 hw [] h0 n0 0 2 (by decide)) (by decide) pd0 [(.int (0 : Int32)), (.int (2 : Int32))] [(.int (6 : Int32)), (.ref y)] rfl rfl rfl rfl 2 (Nat.le_of_eq rfl) (by decide) (by decide) (by decide) (by decide) 0 0 rfl rfl d9_19 22 rfl ?_
  rintro _ T _ X ⟨rfl, rfl⟩
  show Wk p.tables e below _ (T.setTop (mkF m 22 #[.val (.ref y), .val (.int (0 : Int32)), .val (.int (6 : Int32))] [(.int ((0 : Int32).toInt64 * (2 : Int32).toInt64).toInt32), (.int (6 : Int32)), (.ref y)]))
  refine Wk.topI (0 : Int32) (by decide) ?_
  refine Wk.callS X (t30 hw) (t31 hw) (t28 hw) (t32 hw) (con_max l Z a0 hw [] h0 n0 6 0) (by decide) pd0 [(.int (6 : Int32)), (.int (0 : Int32))] [(.ref y)] rfl rfl rfl rfl 1 (Nat.le_of_eq rfl) (by decide) (by decide) (by decide) (by decide) 0 0 rfl rfl d9_22 25 rfl ?_
  rintro _ T _ X ⟨rfl, rfl⟩
  show Wk p.tables e below _ (T.setTop (mkF m 25 #[.val (.ref y), .val (.int (0 : Int32)), .val (.int (6 : Int32))] [(.int (if (6 : Int32) < (0 : Int32) then (0 : Int32) else (6 : Int32))), (.ref y)]))
  refine Wk.topI (6 : Int32) (by decide) ?_
  refine Wk.callS X (t33 hw) (t34 hw) (t35 hw) (t36 hw) (con_copy l Z a0 hw [] h0 n0 y vs 6 6 rfl (by rw [hlen]; decide) (by decide) A Z0) (by decide) pd2 [(.ref y), (.int (6 : Int32))] [] rfl rfl rfl rfl 0 (Nat.le_of_eq rfl) (by decide) (by decide) (by decide) (by decide) 1 24 rfl rfl d9_25 28 rfl ?_
  rintro _ T h1 X ⟨r, rfl, hr0, K1, B⟩
  show Wk p.tables e below _ (T.setTop (mkF m 28 #[.val (.ref y), .val (.int (0 : Int32)), .val (.int (6 : Int32))] [(.ref r)]))
  exact Wk.areturn X d9_28 (by decide) (by decide) rfl rfl rfl ⟨r, rfl, hr0, K1, by rw [hlen] at B; exact B⟩
theorem d6_0 : decode prog_12_method_2_code 0 = .ok (.aload_n 0, 1) := by decide +kernel
theorem d6_1 : decode prog_12_method_2_code 1 = .ok (.aload_n 0, 1) := by decide +kernel
theorem d6_2 : decode prog_12_method_2_code 2 = .ok (.getfield 7, 3) := by decide +kernel
theorem d6_5 : decode prog_12_method_2_code 5 = .ok (.aload_n 0, 1) := by decide +kernel
theorem d6_6 : decode prog_12_method_2_code 6 = .ok (.getfield 19, 3) := by decide +kernel
theorem d6_9 : decode prog_12_method_2_code 9 = .ok (.bipush 6, 2) := by decide +kernel
theorem d6_11 : decode prog_12_method_2_code 11 = .ok (.invokestatic 23, 3) := by decide +kernel
theorem d6_14 : decode prog_12_method_2_code 14 = .ok (.putfield 7, 3) := by decide +kernel
theorem d6_17 : decode prog_12_method_2_code 17 = .ok (.aload_n 0, 1) := by decide +kernel
theorem d6_18 : decode prog_12_method_2_code 18 = .ok (.getfield 19, 3) := by decide +kernel
theorem d6_21 : decode prog_12_method_2_code 21 = .ok (.bipush 6, 2) := by decide +kernel
theorem d6_23 : decode prog_12_method_2_code 23 = .ok (.imul, 1) := by decide +kernel
theorem d6_24 : decode prog_12_method_2_code 24 = .ok (.istore_n 1, 1) := by decide +kernel
theorem d6_25 : decode prog_12_method_2_code 25 = .ok (.aload_n 0, 1) := by decide +kernel
theorem d6_26 : decode prog_12_method_2_code 26 = .ok (.getfield 7, 3) := by decide +kernel
theorem d6_29 : decode prog_12_method_2_code 29 = .ok (.iload_n 1, 1) := by decide +kernel
theorem d6_30 : decode prog_12_method_2_code 30 = .ok (.iload_n 1, 1) := by decide +kernel
theorem d6_31 : decode prog_12_method_2_code 31 = .ok (.bipush 6, 2) := by decide +kernel
theorem d6_33 : decode prog_12_method_2_code 33 = .ok (.iadd, 1) := by decide +kernel
theorem d6_34 : decode prog_12_method_2_code 34 = .ok (.iconst (-1), 1) := by decide +kernel
theorem d6_35 : decode prog_12_method_2_code 35 = .ok (.invokestatic 27, 3) := by decide +kernel
theorem d6_38 : decode prog_12_method_2_code 38 = .ok (.aload_n 0, 1) := by decide +kernel
theorem d6_39 : decode prog_12_method_2_code 39 = .ok (.dup, 1) := by decide +kernel
theorem d6_40 : decode prog_12_method_2_code 40 = .ok (.getfield 19, 3) := by decide +kernel
theorem d6_43 : decode prog_12_method_2_code 43 = .ok (.dup_x1, 1) := by decide +kernel
theorem d6_44 : decode prog_12_method_2_code 44 = .ok (.iconst 1, 1) := by decide +kernel
theorem d6_45 : decode prog_12_method_2_code 45 = .ok (.iadd, 1) := by decide +kernel
theorem d6_46 : decode prog_12_method_2_code 46 = .ok (.putfield 19, 3) := by decide +kernel
theorem d6_49 : decode prog_12_method_2_code 49 = .ok (.ireturn, 1) := by decide +kernel
set_option maxRecDepth 65536 in
set_option maxHeartbeats 40000000 in
theorem con_add0 (l : Launch) (Z : State) (a0 : Array Value) (hw : ∀ d ∈ tables_1, d.before a0 Z = true) (ws : List Jvm.Cond) (h0 : Heap) (n0 : Nat) (a P Y : Addr) (yc : Int32) (ps ys : List Int32) (hlen : ps.length = 0) (S : HS Z h0 n0 a P Y 0 yc ps ys) :
    Con l (⟨"com/example/vestline/vestline/HoursHistories", "add", "()I"⟩ : MethodName) prog_12_method_2_code 2 (some .int) ({ frames := 3, cells := 1, slots := 24, locals := 47 } : Room) ws Z #[(.ref a)] h0 n0 (fun v h => v = some (.int 0) ∧ Keep h0 h [a] ∧ ∃ P', h0.size ≤ P' ∧ HS Z h n0 a P' Y 1 yc (fillL (-1) 6 0 (ps ++ List.replicate 6 0)) ys) := by
  refine Con.of (plainFor_of_name pn1) ?_
  intro p e s m below meth c T X nm
  rw [show entryFrame m #[(.ref a)] 2 = mkF m 0 #[.val (.ref a), .unset] [] from by (first | (simp [entryFrame, mkF, argsToLocals, Value.category]; done) | rfl)]
  obtain ⟨⟨E, N, hn⟩, ⟨F_p, F_k, F_y, F_c⟩, ⟨A_P, A_Y⟩, ⟨nP, nY⟩, hPY, hPa, hYa⟩ := S
  have K := Keep.refl h0 [a]
  have z0 : n0 ≤ h0.size := Nat.le_trans hn (Nat.le_of_lt (Exa.lt E))
  have hY0 := A_Y.lt
  have ha0 := Exa.lt E
  refine Wk.aloadN X d6_0 1 rfl rfl rfl ?_
  refine Wk.aloadN X d6_1 2 rfl rfl rfl ?_
  refine Wk.getfield X (t10 hw) Via.refl F_p d6_2 5 rfl ?_
  intro T X
  refine Wk.aloadN X d6_5 6 rfl rfl rfl ?_
  refine Wk.getfield X (t21 hw) Via.refl F_k d6_6 9 rfl ?_
  intro T X
  refine Wk.bipush X d6_9 11 rfl (6 : Int32) rfl ?_
  refine Wk.callS X (t23 hw) (t24 hw) (t2 hw) (t25 hw) (con_room_0_6 l Z a0 hw [] h0 n0 P ps hlen A_P z0) (by decide) pd3 [(.ref P), (.int (0 : Int32)), (.int (6 : Int32))] [(.ref a)] rfl rfl rfl rfl 1 (Nat.le_of_eq rfl) (by decide) (by decide) (by decide) (by decide) 1 24 rfl rfl d6_11 14 rfl ?_
  rintro _ T h1 X ⟨r, rfl, hr0, K1, B⟩
  show Wk p.tables e below _ (T.setTop (mkF m 14 #[.val (.ref a), .unset] [(.ref r), (.ref a)]))
  have hra : r ≠ a := Ne.symm (Nat.ne_of_lt (Nat.lt_of_lt_of_le ha0 hr0))
  have hrY : r ≠ Y := Ne.symm (Nat.ne_of_lt (Nat.lt_of_lt_of_le hY0 hr0))
  have hrn : n0 ≤ r := Nat.le_trans z0 hr0
  have E := Exa.keep E K1
  have N := N.keep K1
  have F_p := Fld.keep F_p K1 nin0
  have F_k := Fld.keep F_k K1 nin0
  have F_y := Fld.keep F_y K1 nin0
  have F_c := Fld.keep F_c K1 nin0
  have A_Y := A_Y.keep K1 nin0
  have K := K.trans K1 all0
  refine Wk.putF X (t10 hw) Via.refl E N (Or.inl (t11 hw)) (t1 hw) (ty := (.array .int)) (by decide) rfl rfl hn d6_14 17 rfl ?_
  intro T h2 X W2 F_p_new
  have E := Exa.wr W2 E
  have N := N.wr W2
  have F_k := Fld.other W2 F_k (Or.inr (slot_ne (Or.inl (t22 hw)) (Or.inl (t11 hw)) (by decide) (t := .int) (t' := (.array .int)) (by decide) (by decide)))
  have F_y := Fld.other W2 F_y (Or.inr (slot_ne (Or.inl (t13 hw)) (Or.inl (t11 hw)) (by decide) (t := (.array .int)) (t' := (.array .int)) (by decide) (by decide)))
  have F_c := Fld.other W2 F_c (Or.inr (slot_ne (Or.inl (t56 hw)) (Or.inl (t11 hw)) (by decide) (t := .int) (t' := (.array .int)) (by decide) (by decide)))
  have A_Y := A_Y.other W2 hYa
  have K := K.wr W2 (Or.inl (List.mem_singleton.mpr rfl))
  have B := B.other W2 hra
  have F_p := F_p_new
  refine Wk.aloadN X d6_17 18 rfl rfl rfl ?_
  refine Wk.getfield X (t21 hw) Via.refl F_k d6_18 21 rfl ?_
  intro T X
  refine Wk.bipush X d6_21 23 rfl (6 : Int32) rfl ?_
  refine Wk.imul X d6_23 24 rfl ?_
  refine Wk.topI (0 : Int32) (by decide) ?_
  refine Wk.istoreN X d6_24 25 rfl #[.val (.ref a), .val (.int (0 : Int32))] rfl ?_
  refine Wk.aloadN X d6_25 26 rfl rfl rfl ?_
  refine Wk.getfield X (t10 hw) Via.refl F_p d6_26 29 rfl ?_
  intro T X
  refine Wk.iloadN X d6_29 30 rfl rfl ?_
  refine Wk.iloadN X d6_30 31 rfl rfl ?_
  refine Wk.bipush X d6_31 33 rfl (6 : Int32) rfl ?_
  refine Wk.iadd X d6_33 34 rfl ?_
  refine Wk.topI (6 : Int32) (by decide) ?_
  refine Wk.iconst X d6_34 35 rfl (-1 : Int32) rfl ?_
  have hlB : (ps ++ List.replicate 6 0).length = 6 := by rw [List.length_append, hlen]; simp
  refine Wk.callS X (t44 hw) (t45 hw) (t35 hw) (t46 hw) (con_fill l Z a0 hw [] h2 n0 r (ps ++ List.replicate 6 0) 0 6 (-1) (by decide) (by rw [hlB]; decide) hrn B) (by decide) pd4 [(.ref r), (.int (0 : Int32)), (.int (6 : Int32)), (.int (-1 : Int32))] [] rfl rfl rfl rfl 0 (Nat.le_of_eq rfl) (by decide) (by decide) (by decide) (by decide) 1 24 rfl rfl d6_35 38 rfl ?_
  rintro _ T h3 X ⟨rfl, K3, B3⟩
  show Wk p.tables e below _ (T.setTop (mkF m 38 #[.val (.ref a), .val (.int (0 : Int32))] []))
  have E := Exa.keep E K3
  have N := N.keep K3
  have F_k := Fld.keep F_k K3 (ninS (Ne.symm hra) nin0)
  have F_y := Fld.keep F_y K3 (ninS (Ne.symm hra) nin0)
  have F_c := Fld.keep F_c K3 (ninS (Ne.symm hra) nin0)
  have A_Y := A_Y.keep K3 (ninS (Ne.symm hrY) nin0)
  have K := K.trans K3 (allS (Or.inr hr0) all0)
  have F_p := Fld.keep F_p K3 (ninS (Ne.symm hra) nin0)
  refine Wk.aloadN X d6_38 39 rfl rfl rfl ?_
  refine Wk.dup X d6_39 40 rfl rfl ?_
  refine Wk.getfield X (t21 hw) Via.refl F_k d6_40 43 rfl ?_
  intro T X
  refine Wk.dupX1 X d6_43 44 rfl rfl rfl ?_
  refine Wk.iconst X d6_44 45 rfl (1 : Int32) rfl ?_
  refine Wk.iadd X d6_45 46 rfl ?_
  refine Wk.topI (1 : Int32) (by decide) ?_
  refine Wk.putF X (t21 hw) Via.refl E N (Or.inl (t22 hw)) (t1 hw) (ty := .int) (by decide) rfl rfl hn d6_46 49 rfl ?_
  intro T h4 X W4 F_k_new
  have E := Exa.wr W4 E
  have N := N.wr W4
  have F_y := Fld.other W4 F_y (Or.inr (slot_ne (Or.inl (t13 hw)) (Or.inl (t22 hw)) (by decide) (t := (.array .int)) (t' := .int) (by decide) (by decide)))
  have F_c := Fld.other W4 F_c (Or.inr (slot_ne (Or.inl (t56 hw)) (Or.inl (t22 hw)) (by decide) (t := .int) (t' := .int) (by decide) (by decide)))
  have A_Y := A_Y.other W4 hYa
  have K := K.wr W4 (Or.inl (List.mem_singleton.mpr rfl))
  have F_p := Fld.other W4 F_p (Or.inr (slot_ne (Or.inl (t11 hw)) (Or.inl (t22 hw)) (by decide) (t := (.array .int)) (t' := .int) (by decide) (by decide)))
  have B3 := B3.other W4 hra
  have F_k := F_k_new
  exact Wk.ireturn X d6_49 (by decide) (by decide) ⟨rfl, K, r, hr0, ⟨⟨E, N, hn⟩, ⟨F_p, F_k, F_y, F_c⟩, ⟨B3, A_Y⟩, ⟨hrn, nY⟩, hrY, hra, hYa⟩⟩
set_option maxRecDepth 65536 in
set_option maxHeartbeats 40000000 in
theorem con_room_1_6 (l : Launch) (Z : State) (a0 : Array Value) (hw : ∀ d ∈ tables_1, d.before a0 Z = true) (ws : List Jvm.Cond) (h0 : Heap) (n0 : Nat) (y : Addr) (vs : List Int32) (hlen : vs.length = 6) (A : Arl Z h0 y .int (vs.map Value.int)) (Z0 : n0 ≤ h0.size) :
    Con l (⟨"com/example/vestline/vestline/HoursHistories", "room", "([III)[I"⟩ : MethodName) prog_12_method_17_code 3 (some (.array .int)) ({ frames := 2, cells := 1, slots := 24, locals := 32 } : Room) ws Z #[(.ref y), (.int (1 : Int32)), (.int (6 : Int32))] h0 n0 (fun v h => ∃ r, v = some (.ref r) ∧ h0.size ≤ r ∧ Keep h0 h [] ∧ Arl Z h r .int ((vs ++ List.replicate 6 0).map Value.int)) := by
  refine Con.of (plainFor_of_name pn1) ?_
  intro p e s m below meth c T X nm
  rw [show entryFrame m #[(.ref y), (.int (1 : Int32)), (.int (6 : Int32))] 3 = mkF m 0 #[.val (.ref y), .val (.int (1 : Int32)), .val (.int (6 : Int32))] [] from by (first | (simp [entryFrame, mkF, argsToLocals, Value.category]; done) | rfl)]
  have hl : (vs.map Value.int).length.toInt32 = (6 : Int32) := by rw [List.length_map, hlen]; rfl
  refine Wk.iloadN X d9_0 1 rfl rfl ?_
  refine Wk.iconst X d9_1 2 rfl (1 : Int32) rfl ?_
  refine Wk.iadd X d9_2 3 rfl ?_
  refine Wk.topI (2 : Int32) (by decide) ?_
  refine Wk.iloadN X d9_3 4 rfl rfl ?_
  refine Wk.callS X (t26 hw) (t27 hw) (t28 hw) (t29 hw) (con_mul l Z a0 hw [] h0 n0 2 6 (by decide)) (by decide) pd0 [(.int (2 : Int32)), (.int (6 : Int32))] [] rfl rfl rfl rfl 0 (Nat.le_of_eq rfl) (by decide) (by decide) (by decide) (by decide) 0 0 rfl rfl d9_4 7 rfl ?_
  rintro _ T _ X ⟨rfl, rfl⟩
  show Wk p.tables e below _ (T.setTop (mkF m 7 #[.val (.ref y), .val (.int (1 : Int32)), .val (.int (6 : Int32))] [(.int ((2 : Int32).toInt64 * (6 : Int32).toInt64).toInt32)]))
  refine Wk.topI (12 : Int32) (by decide) ?_
  refine Wk.aloadN X d9_7 8 rfl rfl rfl ?_
  refine Wk.arraylength X A d9_8 9 rfl (6 : Int32) hl ?_
  refine Wk.icmpT X d9_9 14 (by decide) (show (6 : Int32) < (12 : Int32) from (by decide)) ?_
  refine Wk.aloadN X d9_14 15 rfl rfl rfl ?_
  refine Wk.iloadN X d9_15 16 rfl rfl ?_
  refine Wk.aloadN X d9_16 17 rfl rfl rfl ?_
  refine Wk.arraylength X A d9_17 18 rfl (6 : Int32) hl ?_
  refine Wk.iconst X d9_18 19 rfl (2 : Int32) rfl ?_
  refine Wk.callS X (t26 hw) (t27 hw) (t28 hw) (t29 hw) (con_mul l Z a0 hw [] h0 n0 6 2 (by decide)) (by decide) pd0 [(.int (6 : Int32)), (.int (2 : Int32))] [(.int (6 : Int32)), (.ref y)] rfl rfl rfl rfl 2 (Nat.le_of_eq rfl) (by decide) (by decide) (by decide) (by decide) 0 0 rfl rfl d9_19 22 rfl ?_
  rintro _ T _ X ⟨rfl, rfl⟩
  show Wk p.tables e below _ (T.setTop (mkF m 22 #[.val (.ref y), .val (.int (1 : Int32)), .val (.int (6 : Int32))] [(.int ((6 : Int32).toInt64 * (2 : Int32).toInt64).toInt32), (.int (6 : Int32)), (.ref y)]))
  refine Wk.topI (12 : Int32) (by decide) ?_
  refine Wk.callS X (t30 hw) (t31 hw) (t28 hw) (t32 hw) (con_max l Z a0 hw [] h0 n0 6 12) (by decide) pd0 [(.int (6 : Int32)), (.int (12 : Int32))] [(.ref y)] rfl rfl rfl rfl 1 (Nat.le_of_eq rfl) (by decide) (by decide) (by decide) (by decide) 0 0 rfl rfl d9_22 25 rfl ?_
  rintro _ T _ X ⟨rfl, rfl⟩
  show Wk p.tables e below _ (T.setTop (mkF m 25 #[.val (.ref y), .val (.int (1 : Int32)), .val (.int (6 : Int32))] [(.int (if (6 : Int32) < (12 : Int32) then (12 : Int32) else (6 : Int32))), (.ref y)]))
  refine Wk.topI (12 : Int32) (by decide) ?_
  refine Wk.callS X (t33 hw) (t34 hw) (t35 hw) (t36 hw) (con_copy l Z a0 hw [] h0 n0 y vs 12 12 rfl (by rw [hlen]; decide) (by decide) A Z0) (by decide) pd2 [(.ref y), (.int (12 : Int32))] [] rfl rfl rfl rfl 0 (Nat.le_of_eq rfl) (by decide) (by decide) (by decide) (by decide) 1 24 rfl rfl d9_25 28 rfl ?_
  rintro _ T h1 X ⟨r, rfl, hr0, K1, B⟩
  show Wk p.tables e below _ (T.setTop (mkF m 28 #[.val (.ref y), .val (.int (1 : Int32)), .val (.int (6 : Int32))] [(.ref r)]))
  exact Wk.areturn X d9_28 (by decide) (by decide) rfl rfl rfl ⟨r, rfl, hr0, K1, by rw [hlen] at B; exact B⟩
set_option maxRecDepth 65536 in
set_option maxHeartbeats 40000000 in
theorem con_add1 (l : Launch) (Z : State) (a0 : Array Value) (hw : ∀ d ∈ tables_1, d.before a0 Z = true) (ws : List Jvm.Cond) (h0 : Heap) (n0 : Nat) (a P Y : Addr) (yc : Int32) (ps ys : List Int32) (hlen : ps.length = 6) (S : HS Z h0 n0 a P Y 1 yc ps ys) :
    Con l (⟨"com/example/vestline/vestline/HoursHistories", "add", "()I"⟩ : MethodName) prog_12_method_2_code 2 (some .int) ({ frames := 3, cells := 1, slots := 24, locals := 47 } : Room) ws Z #[(.ref a)] h0 n0 (fun v h => v = some (.int 1) ∧ Keep h0 h [a] ∧ ∃ P', h0.size ≤ P' ∧ HS Z h n0 a P' Y 2 yc (fillL (-1) 6 6 (ps ++ List.replicate 6 0)) ys) := by
  refine Con.of (plainFor_of_name pn1) ?_
  intro p e s m below meth c T X nm
  rw [show entryFrame m #[(.ref a)] 2 = mkF m 0 #[.val (.ref a), .unset] [] from by (first | (simp [entryFrame, mkF, argsToLocals, Value.category]; done) | rfl)]
  obtain ⟨⟨E, N, hn⟩, ⟨F_p, F_k, F_y, F_c⟩, ⟨A_P, A_Y⟩, ⟨nP, nY⟩, hPY, hPa, hYa⟩ := S
  have K := Keep.refl h0 [a]
  have z0 : n0 ≤ h0.size := Nat.le_trans hn (Nat.le_of_lt (Exa.lt E))
  have hY0 := A_Y.lt
  have ha0 := Exa.lt E
  refine Wk.aloadN X d6_0 1 rfl rfl rfl ?_
  refine Wk.aloadN X d6_1 2 rfl rfl rfl ?_
  refine Wk.getfield X (t10 hw) Via.refl F_p d6_2 5 rfl ?_
  intro T X
  refine Wk.aloadN X d6_5 6 rfl rfl rfl ?_
  refine Wk.getfield X (t21 hw) Via.refl F_k d6_6 9 rfl ?_
  intro T X
  refine Wk.bipush X d6_9 11 rfl (6 : Int32) rfl ?_
  refine Wk.callS X (t23 hw) (t24 hw) (t2 hw) (t25 hw) (con_room_1_6 l Z a0 hw [] h0 n0 P ps hlen A_P z0) (by decide) pd3 [(.ref P), (.int (1 : Int32)), (.int (6 : Int32))] [(.ref a)] rfl rfl rfl rfl 1 (Nat.le_of_eq rfl) (by decide) (by decide) (by decide) (by decide) 1 24 rfl rfl d6_11 14 rfl ?_
  rintro _ T h1 X ⟨r, rfl, hr0, K1, B⟩
  show Wk p.tables e below _ (T.setTop (mkF m 14 #[.val (.ref a), .unset] [(.ref r), (.ref a)]))
  have hra : r ≠ a := Ne.symm (Nat.ne_of_lt (Nat.lt_of_lt_of_le ha0 hr0))
  have hrY : r ≠ Y := Ne.symm (Nat.ne_of_lt (Nat.lt_of_lt_of_le hY0 hr0))
  have hrn : n0 ≤ r := Nat.le_trans z0 hr0
  have E := Exa.keep E K1
  have N := N.keep K1
  have F_p := Fld.keep F_p K1 nin0
  have F_k := Fld.keep F_k K1 nin0
  have F_y := Fld.keep F_y K1 nin0
  have F_c := Fld.keep F_c K1 nin0
  have A_Y := A_Y.keep K1 nin0
  have K := K.trans K1 all0
  refine Wk.putF X (t10 hw) Via.refl E N (Or.inl (t11 hw)) (t1 hw) (ty := (.array .int)) (by decide) rfl rfl hn d6_14 17 rfl ?_
  intro T h2 X W2 F_p_new
  have E := Exa.wr W2 E
  have N := N.wr W2
  have F_k := Fld.other W2 F_k (Or.inr (slot_ne (Or.inl (t22 hw)) (Or.inl (t11 hw)) (by decide) (t := .int) (t' := (.array .int)) (by decide) (by decide)))
  have F_y := Fld.other W2 F_y (Or.inr (slot_ne (Or.inl (t13 hw)) (Or.inl (t11 hw)) (by decide) (t := (.array .int)) (t' := (.array .int)) (by decide) (by decide)))
  have F_c := Fld.other W2 F_c (Or.inr (slot_ne (Or.inl (t56 hw)) (Or.inl (t11 hw)) (by decide) (t := .int) (t' := (.array .int)) (by decide) (by decide)))
  have A_Y := A_Y.other W2 hYa
  have K := K.wr W2 (Or.inl (List.mem_singleton.mpr rfl))
  have B := B.other W2 hra
  have F_p := F_p_new
  refine Wk.aloadN X d6_17 18 rfl rfl rfl ?_
  refine Wk.getfield X (t21 hw) Via.refl F_k d6_18 21 rfl ?_
  intro T X
  refine Wk.bipush X d6_21 23 rfl (6 : Int32) rfl ?_
  refine Wk.imul X d6_23 24 rfl ?_
  refine Wk.topI (6 : Int32) (by decide) ?_
  refine Wk.istoreN X d6_24 25 rfl #[.val (.ref a), .val (.int (6 : Int32))] rfl ?_
  refine Wk.aloadN X d6_25 26 rfl rfl rfl ?_
  refine Wk.getfield X (t10 hw) Via.refl F_p d6_26 29 rfl ?_
  intro T X
  refine Wk.iloadN X d6_29 30 rfl rfl ?_
  refine Wk.iloadN X d6_30 31 rfl rfl ?_
  refine Wk.bipush X d6_31 33 rfl (6 : Int32) rfl ?_
  refine Wk.iadd X d6_33 34 rfl ?_
  refine Wk.topI (12 : Int32) (by decide) ?_
  refine Wk.iconst X d6_34 35 rfl (-1 : Int32) rfl ?_
  have hlB : (ps ++ List.replicate 6 0).length = 12 := by rw [List.length_append, hlen]; simp
  refine Wk.callS X (t44 hw) (t45 hw) (t35 hw) (t46 hw) (con_fill l Z a0 hw [] h2 n0 r (ps ++ List.replicate 6 0) 6 12 (-1) (by decide) (by rw [hlB]; decide) hrn B) (by decide) pd4 [(.ref r), (.int (6 : Int32)), (.int (12 : Int32)), (.int (-1 : Int32))] [] rfl rfl rfl rfl 0 (Nat.le_of_eq rfl) (by decide) (by decide) (by decide) (by decide) 1 24 rfl rfl d6_35 38 rfl ?_
  rintro _ T h3 X ⟨rfl, K3, B3⟩
  show Wk p.tables e below _ (T.setTop (mkF m 38 #[.val (.ref a), .val (.int (6 : Int32))] []))
  have E := Exa.keep E K3
  have N := N.keep K3
  have F_k := Fld.keep F_k K3 (ninS (Ne.symm hra) nin0)
  have F_y := Fld.keep F_y K3 (ninS (Ne.symm hra) nin0)
  have F_c := Fld.keep F_c K3 (ninS (Ne.symm hra) nin0)
  have A_Y := A_Y.keep K3 (ninS (Ne.symm hrY) nin0)
  have K := K.trans K3 (allS (Or.inr hr0) all0)
  have F_p := Fld.keep F_p K3 (ninS (Ne.symm hra) nin0)
  refine Wk.aloadN X d6_38 39 rfl rfl rfl ?_
  refine Wk.dup X d6_39 40 rfl rfl ?_
  refine Wk.getfield X (t21 hw) Via.refl F_k d6_40 43 rfl ?_
  intro T X
  refine Wk.dupX1 X d6_43 44 rfl rfl rfl ?_
  refine Wk.iconst X d6_44 45 rfl (1 : Int32) rfl ?_
  refine Wk.iadd X d6_45 46 rfl ?_
  refine Wk.topI (2 : Int32) (by decide) ?_
  refine Wk.putF X (t21 hw) Via.refl E N (Or.inl (t22 hw)) (t1 hw) (ty := .int) (by decide) rfl rfl hn d6_46 49 rfl ?_
  intro T h4 X W4 F_k_new
  have E := Exa.wr W4 E
  have N := N.wr W4
  have F_y := Fld.other W4 F_y (Or.inr (slot_ne (Or.inl (t13 hw)) (Or.inl (t22 hw)) (by decide) (t := (.array .int)) (t' := .int) (by decide) (by decide)))
  have F_c := Fld.other W4 F_c (Or.inr (slot_ne (Or.inl (t56 hw)) (Or.inl (t22 hw)) (by decide) (t := .int) (t' := .int) (by decide) (by decide)))
  have A_Y := A_Y.other W4 hYa
  have K := K.wr W4 (Or.inl (List.mem_singleton.mpr rfl))
  have F_p := Fld.other W4 F_p (Or.inr (slot_ne (Or.inl (t11 hw)) (Or.inl (t22 hw)) (by decide) (t := (.array .int)) (t' := .int) (by decide) (by decide)))
  have B3 := B3.other W4 hra
  have F_k := F_k_new
  exact Wk.ireturn X d6_49 (by decide) (by decide) ⟨rfl, K, r, hr0, ⟨⟨E, N, hn⟩, ⟨F_p, F_k, F_y, F_c⟩, ⟨B3, A_Y⟩, ⟨hrn, nY⟩, hrY, hra, hYa⟩⟩
set_option maxRecDepth 65536 in
set_option maxHeartbeats 40000000 in
theorem con_room_0_3 (l : Launch) (Z : State) (a0 : Array Value) (hw : ∀ d ∈ tables_1, d.before a0 Z = true) (ws : List Jvm.Cond) (h0 : Heap) (n0 : Nat) (y : Addr) (vs : List Int32) (hlen : vs.length = 0) (A : Arl Z h0 y .int (vs.map Value.int)) (Z0 : n0 ≤ h0.size) :
    Con l (⟨"com/example/vestline/vestline/HoursHistories", "room", "([III)[I"⟩ : MethodName) prog_12_method_17_code 3 (some (.array .int)) ({ frames := 2, cells := 1, slots := 24, locals := 32 } : Room) ws Z #[(.ref y), (.int (0 : Int32)), (.int (3 : Int32))] h0 n0 (fun v h => ∃ r, v = some (.ref r) ∧ h0.size ≤ r ∧ Keep h0 h [] ∧ Arl Z h r .int ((vs ++ List.replicate 3 0).map Value.int)) := by
  refine Con.of (plainFor_of_name pn1) ?_
  intro p e s m below meth c T X nm
  rw [show entryFrame m #[(.ref y), (.int (0 : Int32)), (.int (3 : Int32))] 3 = mkF m 0 #[.val (.ref y), .val (.int (0 : Int32)), .val (.int (3 : Int32))] [] from by (first | (simp [entryFrame, mkF, argsToLocals, Value.category]; done) | rfl)]
  have hl : (vs.map Value.int).length.toInt32 = (0 : Int32) := by rw [List.length_map, hlen]; rfl
  refine Wk.iloadN X d9_0 1 rfl rfl ?_
  refine Wk.iconst X d9_1 2 rfl (1 : Int32) rfl ?_
  refine Wk.iadd X d9_2 3 rfl ?_
  refine Wk.topI (1 : Int32) (by decide) ?_
  refine Wk.iloadN X d9_3 4 rfl rfl ?_
  refine Wk.callS X (t26 hw) (t27 hw) (t28 hw) (t29 hw) (con_mul l Z a0 hw [] h0 n0 1 3 (by decide)) (by decide) pd0 [(.int (1 : Int32)), (.int (3 : Int32))] [] rfl rfl rfl rfl 0 (Nat.le_of_eq rfl) (by decide) (by decide) (by decide) (by decide) 0 0 rfl rfl d9_4 7 rfl ?_
  rintro _ T _ X ⟨rfl, rfl⟩
  show Wk p.tables e below _ (T.setTop (mkF m 7 #[.val (.ref y), .val (.int (0 : Int32)), .val (.int (3 : Int32))] [(.int ((1 : Int32).toInt64 * (3 : Int32).toInt64).toInt32)]))
  refine Wk.topI (3 : Int32) (by decide) ?_
  refine Wk.aloadN X d9_7 8 rfl rfl rfl ?_
  refine Wk.arraylength X A d9_8 9 rfl (0 : Int32) hl ?_
  refine Wk.icmpT X d9_9 14 (by decide) (show (0 : Int32) < (3 : Int32) from (by decide)) ?_
  refine Wk.aloadN X d9_14 15 rfl rfl rfl ?_
  refine Wk.iloadN X d9_15 16 rfl rfl ?_
  refine Wk.aloadN X d9_16 17 rfl rfl rfl ?_
  refine Wk.arraylength X A d9_17 18 rfl (0 : Int32) hl ?_
  refine Wk.iconst X d9_18 19 rfl (2 : Int32) rfl ?_
  refine Wk.callS X (t26 hw) (t27 hw) (t28 hw) (t29 hw) (con_mul l Z a0 hw [] h0 n0 0 2 (by decide)) (by decide) pd0 [(.int (0 : Int32)), (.int (2 : Int32))] [(.int (3 : Int32)), (.ref y)] rfl rfl rfl rfl 2 (Nat.le_of_eq rfl) (by decide) (by decide) (by decide) (by decide) 0 0 rfl rfl d9_19 22 rfl ?_
  rintro _ T _ X ⟨rfl, rfl⟩
  show Wk p.tables e below _ (T.setTop (mkF m 22 #[.val (.ref y), .val (.int (0 : Int32)), .val (.int (3 : Int32))] [(.int ((0 : Int32).toInt64 * (2 : Int32).toInt64).toInt32), (.int (3 : Int32)), (.ref y)]))
  refine Wk.topI (0 : Int32) (by decide) ?_
  refine Wk.callS X (t30 hw) (t31 hw) (t28 hw) (t32 hw) (con_max l Z a0 hw [] h0 n0 3 0) (by decide) pd0 [(.int (3 : Int32)), (.int (0 : Int32))] [(.ref y)] rfl rfl rfl rfl 1 (Nat.le_of_eq rfl) (by decide) (by decide) (by decide) (by decide) 0 0 rfl rfl d9_22 25 rfl ?_
  rintro _ T _ X ⟨rfl, rfl⟩
  show Wk p.tables e below _ (T.setTop (mkF m 25 #[.val (.ref y), .val (.int (0 : Int32)), .val (.int (3 : Int32))] [(.int (if (3 : Int32) < (0 : Int32) then (0 : Int32) else (3 : Int32))), (.ref y)]))
  refine Wk.topI (3 : Int32) (by decide) ?_
  refine Wk.callS X (t33 hw) (t34 hw) (t35 hw) (t36 hw) (con_copy l Z a0 hw [] h0 n0 y vs 3 3 rfl (by rw [hlen]; decide) (by decide) A Z0) (by decide) pd2 [(.ref y), (.int (3 : Int32))] [] rfl rfl rfl rfl 0 (Nat.le_of_eq rfl) (by decide) (by decide) (by decide) (by decide) 1 24 rfl rfl d9_25 28 rfl ?_
  rintro _ T h1 X ⟨r, rfl, hr0, K1, B⟩
  show Wk p.tables e below _ (T.setTop (mkF m 28 #[.val (.ref y), .val (.int (0 : Int32)), .val (.int (3 : Int32))] [(.ref r)]))
  exact Wk.areturn X d9_28 (by decide) (by decide) rfl rfl rfl ⟨r, rfl, hr0, K1, by rw [hlen] at B; exact B⟩
theorem d33_0 : decode prog_12_method_16_code 0 = .ok (.aload_n 1, 1) := by decide +kernel
theorem d33_1 : decode prog_12_method_16_code 1 = .ok (.iload_n 2, 1) := by decide +kernel
theorem d33_2 : decode prog_12_method_16_code 2 = .ok (.iconst 3, 1) := by decide +kernel
theorem d33_3 : decode prog_12_method_16_code 3 = .ok (.imul, 1) := by decide +kernel
theorem d33_4 : decode prog_12_method_16_code 4 = .ok (.iconst 2, 1) := by decide +kernel
theorem d33_5 : decode prog_12_method_16_code 5 = .ok (.iadd, 1) := by decide +kernel
theorem d33_6 : decode prog_12_method_16_code 6 = .ok (.iconst (-1), 1) := by decide +kernel
theorem d33_7 : decode prog_12_method_16_code 7 = .ok (.iastore, 1) := by decide +kernel
theorem d33_8 : decode prog_12_method_16_code 8 = .ok (.iload_n 3, 1) := by decide +kernel
theorem d33_9 : decode prog_12_method_16_code 9 = .ok (.bipush 6, 2) := by decide +kernel
theorem d33_11 : decode prog_12_method_16_code 11 = .ok (.imul, 1) := by decide +kernel
theorem d33_12 : decode prog_12_method_16_code 12 = .ok (.istore 6, 2) := by decide +kernel
theorem d33_14 : decode prog_12_method_16_code 14 = .ok (.aload_n 0, 1) := by decide +kernel
theorem d33_15 : decode prog_12_method_16_code 15 = .ok (.getfield 7, 3) := by decide +kernel
theorem d33_18 : decode prog_12_method_16_code 18 = .ok (.iload 6, 2) := by decide +kernel
theorem d33_20 : decode prog_12_method_16_code 20 = .ok (.iload 5, 2) := by decide +kernel
theorem d33_22 : decode prog_12_method_16_code 22 = .ok (.iadd, 1) := by decide +kernel
theorem d33_23 : decode prog_12_method_16_code 23 = .ok (.iaload, 1) := by decide +kernel
theorem d33_24 : decode prog_12_method_16_code 24 = .ok (.istore 7, 2) := by decide +kernel
theorem d33_26 : decode prog_12_method_16_code 26 = .ok (.iload 7, 2) := by decide +kernel
theorem d33_28 : decode prog_12_method_16_code 28 = .ok (.iconst (-1), 1) := by decide +kernel
theorem d33_29 : decode prog_12_method_16_code 29 = .ok (.if_icmp .ne 17, 3) := by decide +kernel
theorem d33_32 : decode prog_12_method_16_code 32 = .ok (.aload_n 0, 1) := by decide +kernel
theorem d33_33 : decode prog_12_method_16_code 33 = .ok (.getfield 7, 3) := by decide +kernel
theorem d33_36 : decode prog_12_method_16_code 36 = .ok (.iload 6, 2) := by decide +kernel
theorem d33_38 : decode prog_12_method_16_code 38 = .ok (.iload 4, 2) := by decide +kernel
theorem d33_40 : decode prog_12_method_16_code 40 = .ok (.iadd, 1) := by decide +kernel
theorem d33_41 : decode prog_12_method_16_code 41 = .ok (.iload_n 2, 1) := by decide +kernel
theorem d33_42 : decode prog_12_method_16_code 42 = .ok (.iastore, 1) := by decide +kernel
theorem d33_43 : decode prog_12_method_16_code 43 = .ok (.goto 12, 3) := by decide +kernel
theorem d33_46 : decode prog_12_method_16_code 46 = .ok (.aload_n 1, 1) := by decide +kernel
theorem d33_47 : decode prog_12_method_16_code 47 = .ok (.iload 7, 2) := by decide +kernel
theorem d33_49 : decode prog_12_method_16_code 49 = .ok (.iconst 3, 1) := by decide +kernel
theorem d33_50 : decode prog_12_method_16_code 50 = .ok (.imul, 1) := by decide +kernel
theorem d33_51 : decode prog_12_method_16_code 51 = .ok (.iconst 2, 1) := by decide +kernel
theorem d33_52 : decode prog_12_method_16_code 52 = .ok (.iadd, 1) := by decide +kernel
theorem d33_53 : decode prog_12_method_16_code 53 = .ok (.iload_n 2, 1) := by decide +kernel
theorem d33_54 : decode prog_12_method_16_code 54 = .ok (.iastore, 1) := by decide +kernel
theorem d33_55 : decode prog_12_method_16_code 55 = .ok (.aload_n 0, 1) := by decide +kernel
theorem d33_56 : decode prog_12_method_16_code 56 = .ok (.getfield 7, 3) := by decide +kernel
theorem d33_59 : decode prog_12_method_16_code 59 = .ok (.iload 6, 2) := by decide +kernel
theorem d33_61 : decode prog_12_method_16_code 61 = .ok (.iload 5, 2) := by decide +kernel
theorem d33_63 : decode prog_12_method_16_code 63 = .ok (.iadd, 1) := by decide +kernel
theorem d33_64 : decode prog_12_method_16_code 64 = .ok (.iload_n 2, 1) := by decide +kernel
theorem d33_65 : decode prog_12_method_16_code 65 = .ok (.iastore, 1) := by decide +kernel
theorem d33_66 : decode prog_12_method_16_code 66 = .ok (.return_, 1) := by decide +kernel
set_option maxRecDepth 65536 in
set_option maxHeartbeats 40000000 in
theorem con_link0 (l : Launch) (Z : State) (a0 : Array Value) (hw : ∀ d ∈ tables_1, d.before a0 Z = true) (ws : List Jvm.Cond) (h0 : Heap) (n0 : Nat) (a P Y : Addr) (ps zs : List Int32) (q : Int32) (qN : Nat) (hq : q.toInt = qN) (hq4 : qN < 4) (hps : 6 * qN + 5 < ps.length) (v : Int32) (hv : ps[6 * qN + 1]? = some v) (hvv : v = -1 ∨ ∃ m' : Nat, v.toInt = m' ∧ 3 * m' + 2 < zs.length ∧ m' < 4) (hlen : zs.length = 3) (F_p : Fld Z h0 a "com/example/vestline/vestline/HoursHistories" "participants" "[I" (.ref P)) (A_P : Arl Z h0 P .int (ps.map Value.int)) (A_Y : Arl Z h0 Y .int (zs.map Value.int)) (nP : n0 ≤ P) (nY : n0 ≤ Y) (hPY : P ≠ Y) (haP : a ≠ P) (haY : a ≠ Y) :
    Con l (⟨"com/example/vestline/vestline/HoursHistories", "link", "([IIIII)V"⟩ : MethodName) prog_12_method_16_code 8 none ({ frames := 0, cells := 0, slots := 0, locals := 0 } : Room) ws Z #[(.ref a), (.ref Y), (.int (0 : Int32)), (.int q), (.int (0 : Int32)), (.int (1 : Int32))] h0 n0 (fun r h => r = none ∧ Keep h0 h [P, Y] ∧ Arl Z h P .int ((lnkP v 0 qN ps).map Value.int) ∧ Arl Z h Y .int ((lnkY v 0 0 zs).map Value.int)) := by
  refine Con.of (plainFor_of_name pn1) ?_
  intro p e s m below meth c T X nm
  rw [show entryFrame m #[(.ref a), (.ref Y), (.int (0 : Int32)), (.int q), (.int (0 : Int32)), (.int (1 : Int32))] 8 = mkF m 0 #[.val (.ref a), .val (.ref Y), .val (.int (0 : Int32)), .val (.int q), .val (.int (0 : Int32)), .val (.int (1 : Int32)), .unset, .unset] [] from by (first | (simp [entryFrame, mkF, argsToLocals, Value.category]; done) | rfl)]
  have i0 := own_ixP 0 0 hq hq4 rfl (by decide)
  have i1 := own_ixP 1 1 hq hq4 rfl (by decide)
  have lP : (ps.map Value.int).length = ps.length := by simp
  refine Wk.aloadN X d33_0 1 rfl rfl rfl ?_
  refine Wk.iloadN X d33_1 2 rfl rfl ?_
  refine Wk.iconst X d33_2 3 rfl (3 : Int32) rfl ?_
  refine Wk.imul X d33_3 4 rfl ?_
  refine Wk.topI (0 : Int32) (by decide) ?_
  refine Wk.iconst X d33_4 5 rfl (2 : Int32) rfl ?_
  refine Wk.iadd X d33_5 6 rfl ?_
  refine Wk.topI (2 : Int32) (by decide) ?_
  refine Wk.iconst X d33_6 7 rfl (-1 : Int32) rfl ?_
  refine Wk.iastore X A_Y nY 2 rfl (by simp [hlen]) d33_7 8 rfl ?_
  intro T h1 X W1
  have A_P := A_P.other W1 hPY
  have A_Y := A_Y.set W1
  have F_p := Fld.other W1 F_p (Or.inl haY)
  refine Wk.iloadN X d33_8 9 rfl rfl ?_
  refine Wk.bipush X d33_9 11 rfl (6 : Int32) rfl ?_
  refine Wk.imul X d33_11 12 rfl ?_
  refine Wk.istore X d33_12 14 rfl #[.val (.ref a), .val (.ref Y), .val (.int (0 : Int32)), .val (.int q), .val (.int (0 : Int32)), .val (.int (1 : Int32)), .val (.int (q * (6 : Int32))), .unset] rfl ?_
  refine Wk.aloadN X d33_14 15 rfl rfl rfl ?_
  refine Wk.getfield X (t10 hw) Via.refl F_p d33_15 18 rfl ?_
  intro T X
  refine Wk.iload X d33_18 20 rfl rfl ?_
  refine Wk.iload X d33_20 22 rfl rfl ?_
  refine Wk.iadd X d33_22 23 rfl ?_
  refine Wk.iaload X A_P (6 * qN + 1) i1 (own_at hv) d33_23 24 rfl ?_
  refine Wk.istore X d33_24 26 rfl #[.val (.ref a), .val (.ref Y), .val (.int (0 : Int32)), .val (.int q), .val (.int (0 : Int32)), .val (.int (1 : Int32)), .val (.int (q * (6 : Int32))), .val (.int v)] rfl ?_
  refine Wk.iload X d33_26 28 rfl rfl ?_
  refine Wk.iconst X d33_28 29 rfl (-1 : Int32) rfl ?_
  refine Wk.icmp X d33_29 46 32 (by decide) rfl ?_ ?_
  · intro hc; change ¬ v = (-1 : Int32) at hc
    obtain ⟨m', e1, e2, e3⟩ := hvv.resolve_left hc
    have e4 : v.toInt.toNat = m' := by omega
    have i2 := own_ixY 2 2 e1 e3 rfl (by decide)
    refine Wk.aloadN X d33_46 47 rfl rfl rfl ?_
    refine Wk.iload X d33_47 49 rfl rfl ?_
    refine Wk.iconst X d33_49 50 rfl (3 : Int32) rfl ?_
    refine Wk.imul X d33_50 51 rfl ?_
    refine Wk.iconst X d33_51 52 rfl (2 : Int32) rfl ?_
    refine Wk.iadd X d33_52 53 rfl ?_
    refine Wk.iloadN X d33_53 54 rfl rfl ?_
    refine Wk.iastore X A_Y nY (3 * m' + 2) i2 (by simp; omega) d33_54 55 rfl ?_
    intro T h2 X W2
    have A_P := A_P.other W2 hPY
    have A_Y := A_Y.set W2
    have F_p := Fld.other W2 F_p (Or.inl haY)
    refine Wk.aloadN X d33_55 56 rfl rfl rfl ?_
    refine Wk.getfield X (t10 hw) Via.refl F_p d33_56 59 rfl ?_
    intro T X
    refine Wk.iload X d33_59 61 rfl rfl ?_
    refine Wk.iload X d33_61 63 rfl rfl ?_
    refine Wk.iadd X d33_63 64 rfl ?_
    refine Wk.iloadN X d33_64 65 rfl rfl ?_
    refine Wk.iastore X A_P nP (6 * qN + 1) i1 (by simp; omega) d33_65 66 rfl ?_
    intro T h3 X W3
    have A_P := A_P.set W3
    have A_Y := A_Y.other W3 (Ne.symm hPY)
    exact Wk.vreturn X d33_66 (by decide) (by decide) ⟨rfl, (((Keep.refl h0 [P, Y]).wr W1 (Or.inl (by simp))).wr W2 (Or.inl (by simp))).wr W3 (Or.inl (by simp)), by simpa [lnkP, hc, e4, List.map_set] using A_P, by simpa [lnkY, hc, e4, List.map_set] using A_Y⟩
  · intro hc; change v = (-1 : Int32) at hc
    refine Wk.aloadN X d33_32 33 rfl rfl rfl ?_
    refine Wk.getfield X (t10 hw) Via.refl F_p d33_33 36 rfl ?_
    intro T X
    refine Wk.iload X d33_36 38 rfl rfl ?_
    refine Wk.iload X d33_38 40 rfl rfl ?_
    refine Wk.iadd X d33_40 41 rfl ?_
    refine Wk.iloadN X d33_41 42 rfl rfl ?_
    refine Wk.iastore X A_P nP (6 * qN) i0 (by simp; omega) d33_42 43 rfl ?_
    intro T h2 X W2
    have A_P := A_P.set W2
    have A_Y := A_Y.other W2 (Ne.symm hPY)
    have F_p := Fld.other W2 F_p (Or.inl haP)
    refine Wk.goto X d33_43 55 (by decide) ?_
    refine Wk.aloadN X d33_55 56 rfl rfl rfl ?_
    refine Wk.getfield X (t10 hw) Via.refl F_p d33_56 59 rfl ?_
    intro T X
    refine Wk.iload X d33_59 61 rfl rfl ?_
    refine Wk.iload X d33_61 63 rfl rfl ?_
    refine Wk.iadd X d33_63 64 rfl ?_
    refine Wk.iloadN X d33_64 65 rfl rfl ?_
    refine Wk.iastore X A_P nP (6 * qN + 1) i1 (by simp; omega) d33_65 66 rfl ?_
    intro T h3 X W3
    have A_P := A_P.set W3
    have A_Y := A_Y.other W3 (Ne.symm hPY)
    exact Wk.vreturn X d33_66 (by decide) (by decide) ⟨rfl, (((Keep.refl h0 [P, Y]).wr W1 (Or.inl (by simp))).wr W2 (Or.inl (by simp))).wr W3 (Or.inl (by simp)), by simpa [lnkP, hc, List.map_set] using A_P, by simpa [lnkY, hc, List.map_set] using A_Y⟩
theorem d30_0 : decode prog_12_method_4_code 0 = .ok (.aload_n 0, 1) := by decide +kernel
theorem d30_1 : decode prog_12_method_4_code 1 = .ok (.aload_n 0, 1) := by decide +kernel
theorem d30_2 : decode prog_12_method_4_code 2 = .ok (.getfield 13, 3) := by decide +kernel
theorem d30_5 : decode prog_12_method_4_code 5 = .ok (.aload_n 0, 1) := by decide +kernel
theorem d30_6 : decode prog_12_method_4_code 6 = .ok (.getfield 33, 3) := by decide +kernel
theorem d30_9 : decode prog_12_method_4_code 9 = .ok (.iconst 3, 1) := by decide +kernel
theorem d30_10 : decode prog_12_method_4_code 10 = .ok (.invokestatic 23, 3) := by decide +kernel
theorem d30_13 : decode prog_12_method_4_code 13 = .ok (.putfield 13, 3) := by decide +kernel
theorem d30_16 : decode prog_12_method_4_code 16 = .ok (.aload_n 0, 1) := by decide +kernel
theorem d30_17 : decode prog_12_method_4_code 17 = .ok (.getfield 33, 3) := by decide +kernel
theorem d30_20 : decode prog_12_method_4_code 20 = .ok (.iconst 3, 1) := by decide +kernel
theorem d30_21 : decode prog_12_method_4_code 21 = .ok (.imul, 1) := by decide +kernel
theorem d30_22 : decode prog_12_method_4_code 22 = .ok (.istore 4, 2) := by decide +kernel
theorem d30_24 : decode prog_12_method_4_code 24 = .ok (.aload_n 0, 1) := by decide +kernel
theorem d30_25 : decode prog_12_method_4_code 25 = .ok (.getfield 13, 3) := by decide +kernel
theorem d30_28 : decode prog_12_method_4_code 28 = .ok (.iload 4, 2) := by decide +kernel
theorem d30_30 : decode prog_12_method_4_code 30 = .ok (.iconst 0, 1) := by decide +kernel
theorem d30_31 : decode prog_12_method_4_code 31 = .ok (.iadd, 1) := by decide +kernel
theorem d30_32 : decode prog_12_method_4_code 32 = .ok (.iload_n 2, 1) := by decide +kernel
theorem d30_33 : decode prog_12_method_4_code 33 = .ok (.iastore, 1) := by decide +kernel
theorem d30_34 : decode prog_12_method_4_code 34 = .ok (.aload_n 0, 1) := by decide +kernel
theorem d30_35 : decode prog_12_method_4_code 35 = .ok (.getfield 13, 3) := by decide +kernel
theorem d30_38 : decode prog_12_method_4_code 38 = .ok (.iload 4, 2) := by decide +kernel
theorem d30_40 : decode prog_12_method_4_code 40 = .ok (.iconst 1, 1) := by decide +kernel
theorem d30_41 : decode prog_12_method_4_code 41 = .ok (.iadd, 1) := by decide +kernel
theorem d30_42 : decode prog_12_method_4_code 42 = .ok (.iload_n 3, 1) := by decide +kernel
theorem d30_43 : decode prog_12_method_4_code 43 = .ok (.iastore, 1) := by decide +kernel
theorem d30_44 : decode prog_12_method_4_code 44 = .ok (.aload_n 0, 1) := by decide +kernel
theorem d30_45 : decode prog_12_method_4_code 45 = .ok (.aload_n 0, 1) := by decide +kernel
theorem d30_46 : decode prog_12_method_4_code 46 = .ok (.getfield 13, 3) := by decide +kernel
theorem d30_49 : decode prog_12_method_4_code 49 = .ok (.aload_n 0, 1) := by decide +kernel
theorem d30_50 : decode prog_12_method_4_code 50 = .ok (.dup, 1) := by decide +kernel
theorem d30_51 : decode prog_12_method_4_code 51 = .ok (.getfield 33, 3) := by decide +kernel
theorem d30_54 : decode prog_12_method_4_code 54 = .ok (.dup_x1, 1) := by decide +kernel
theorem d30_55 : decode prog_12_method_4_code 55 = .ok (.iconst 1, 1) := by decide +kernel
theorem d30_56 : decode prog_12_method_4_code 56 = .ok (.iadd, 1) := by decide +kernel
theorem d30_57 : decode prog_12_method_4_code 57 = .ok (.putfield 33, 3) := by decide +kernel
theorem d30_60 : decode prog_12_method_4_code 60 = .ok (.iload_n 1, 1) := by decide +kernel
theorem d30_61 : decode prog_12_method_4_code 61 = .ok (.iconst 0, 1) := by decide +kernel
theorem d30_62 : decode prog_12_method_4_code 62 = .ok (.iconst 1, 1) := by decide +kernel
theorem d30_63 : decode prog_12_method_4_code 63 = .ok (.invokevirtual 36, 3) := by decide +kernel
theorem d30_66 : decode prog_12_method_4_code 66 = .ok (.return_, 1) := by decide +kernel
set_option maxRecDepth 65536 in
set_option maxHeartbeats 40000000 in
theorem con_addYear0 (l : Launch) (Z : State) (a0 : Array Value) (hw : ∀ d ∈ tables_1, d.before a0 Z = true) (ws : List Jvm.Cond) (h0 : Heap) (n0 : Nat) (a P Y : Addr) (pk yr hr : Int32) (ps ys : List Int32) (q : Int32) (qN : Nat) (hq : q.toInt = qN) (hq4 : qN < 4) (hps : 6 * qN + 5 < ps.length) (v : Int32) (hv : ps[6 * qN + 1]? = some v) (hvv : v = -1 ∨ ∃ m' : Nat, v.toInt = m' ∧ m' < 0) (hlen : ys.length = 0) (S : HS Z h0 n0 a P Y pk 0 ps ys) :
    Con l (⟨"com/example/vestline/vestline/HoursHistories", "addYear", "(III)V"⟩ : MethodName) prog_12_method_4_code 5 none ({ frames := 3, cells := 1, slots := 24, locals := 47 } : Room) ws Z #[(.ref a), (.int q), (.int yr), (.int hr)] h0 n0 (fun r h => r = none ∧ Keep h0 h [a, P] ∧ ∃ Y', h0.size ≤ Y' ∧ HS Z h n0 a P Y' pk 1 (lnkP v 0 qN ps) (lnkY v 0 0 (((ys ++ List.replicate 3 0).set 0 yr).set 1 hr))) := by
  refine Con.of (plainFor_of_name pn1) ?_
  intro p e s m below meth c T X nm
  rw [show entryFrame m #[(.ref a), (.int q), (.int yr), (.int hr)] 5 = mkF m 0 #[.val (.ref a), .val (.int q), .val (.int yr), .val (.int hr), .unset] [] from by (first | (simp [entryFrame, mkF, argsToLocals, Value.category]; done) | rfl)]
  obtain ⟨⟨E, N, hn⟩, ⟨F_p, F_k, F_y, F_c⟩, ⟨A_P, A_Y⟩, ⟨nP, nY⟩, hPY, hPa, hYa⟩ := S
  have K := Keep.refl h0 [a, P]
  have z0 : n0 ≤ h0.size := Nat.le_trans hn (Nat.le_of_lt (Exa.lt E))
  have hP0 := A_P.lt
  have ha0 := Exa.lt E
  refine Wk.aloadN X d30_0 1 rfl rfl rfl ?_
  refine Wk.aloadN X d30_1 2 rfl rfl rfl ?_
  refine Wk.getfield X (t12 hw) Via.refl F_y d30_2 5 rfl ?_
  intro T X
  refine Wk.aloadN X d30_5 6 rfl rfl rfl ?_
  refine Wk.getfield X (t55 hw) Via.refl F_c d30_6 9 rfl ?_
  intro T X
  refine Wk.iconst X d30_9 10 rfl (3 : Int32) rfl ?_
  refine Wk.callS X (t23 hw) (t24 hw) (t2 hw) (t25 hw) (con_room_0_3 l Z a0 hw [] h0 n0 Y ys hlen A_Y z0) (by decide) pd3 [(.ref Y), (.int (0 : Int32)), (.int (3 : Int32))] [(.ref a)] rfl rfl rfl rfl 1 (Nat.le_of_eq rfl) (by decide) (by decide) (by decide) (by decide) 1 24 rfl rfl d30_10 13 rfl ?_
  rintro _ T h1 X ⟨r, rfl, hr0, K1, B⟩
  show Wk p.tables e below _ (T.setTop (mkF m 13 #[.val (.ref a), .val (.int q), .val (.int yr), .val (.int hr), .unset] [(.ref r), (.ref a)]))
  have hra : r ≠ a := Ne.symm (Nat.ne_of_lt (Nat.lt_of_lt_of_le ha0 hr0))
  have hrP : r ≠ P := Ne.symm (Nat.ne_of_lt (Nat.lt_of_lt_of_le hP0 hr0))
  have hrn : n0 ≤ r := Nat.le_trans z0 hr0
  have hlB : (ys ++ List.replicate 3 0).length = 3 := by rw [List.length_append, hlen]; simp
  have E := Exa.keep E K1
  have N := N.keep K1
  have F_p := Fld.keep F_p K1 nin0
  have F_k := Fld.keep F_k K1 nin0
  have F_y := Fld.keep F_y K1 nin0
  have F_c := Fld.keep F_c K1 nin0
  have A_P := A_P.keep K1 nin0
  have K := K.trans K1 all0
  refine Wk.putF X (t12 hw) Via.refl E N (Or.inl (t13 hw)) (t1 hw) (ty := (.array .int)) (by decide) rfl rfl hn d30_13 16 rfl ?_
  intro T h2 X W2 F_y_new
  have E := Exa.wr W2 E
  have N := N.wr W2
  have F_p := Fld.other W2 F_p (Or.inr (slot_ne (Or.inl (t11 hw)) (Or.inl (t13 hw)) (by decide) (t := (.array .int)) (t' := (.array .int)) (by decide) (by decide)))
  have F_k := Fld.other W2 F_k (Or.inr (slot_ne (Or.inl (t22 hw)) (Or.inl (t13 hw)) (by decide) (t := .int) (t' := (.array .int)) (by decide) (by decide)))
  have F_c := Fld.other W2 F_c (Or.inr (slot_ne (Or.inl (t56 hw)) (Or.inl (t13 hw)) (by decide) (t := .int) (t' := (.array .int)) (by decide) (by decide)))
  have A_P := A_P.other W2 hPa
  have K := K.wr W2 (Or.inl (by simp))
  have B := B.other W2 hra
  have F_y := F_y_new
  refine Wk.aloadN X d30_16 17 rfl rfl rfl ?_
  refine Wk.getfield X (t55 hw) Via.refl F_c d30_17 20 rfl ?_
  intro T X
  refine Wk.iconst X d30_20 21 rfl (3 : Int32) rfl ?_
  refine Wk.imul X d30_21 22 rfl ?_
  refine Wk.topI (0 : Int32) (by decide) ?_
  refine Wk.istore X d30_22 24 rfl #[.val (.ref a), .val (.int q), .val (.int yr), .val (.int hr), .val (.int (0 : Int32))] rfl ?_
  refine Wk.aloadN X d30_24 25 rfl rfl rfl ?_
  refine Wk.getfield X (t12 hw) Via.refl F_y d30_25 28 rfl ?_
  intro T X
  refine Wk.iload X d30_28 30 rfl rfl ?_
  refine Wk.iconst X d30_30 31 rfl (0 : Int32) rfl ?_
  refine Wk.iadd X d30_31 32 rfl ?_
  refine Wk.topI (0 : Int32) (by decide) ?_
  refine Wk.iloadN X d30_32 33 rfl rfl ?_
  refine Wk.iastore X B hrn 0 rfl (by rw [List.length_map, hlB]; decide) d30_33 34 rfl ?_
  intro T h3 X W3
  have B := B.set W3
  have E := Exa.wr W3 E
  have N := N.wr W3
  have F_p := Fld.other W3 F_p (Or.inl (Ne.symm hra))
  have F_k := Fld.other W3 F_k (Or.inl (Ne.symm hra))
  have F_c := Fld.other W3 F_c (Or.inl (Ne.symm hra))
  have A_P := A_P.other W3 (Ne.symm hrP)
  have K := K.wr W3 (Or.inr hr0)
  have F_y := Fld.other W3 F_y (Or.inl (Ne.symm hra))
  refine Wk.aloadN X d30_34 35 rfl rfl rfl ?_
  refine Wk.getfield X (t12 hw) Via.refl F_y d30_35 38 rfl ?_
  intro T X
  refine Wk.iload X d30_38 40 rfl rfl ?_
  refine Wk.iconst X d30_40 41 rfl (1 : Int32) rfl ?_
  refine Wk.iadd X d30_41 42 rfl ?_
  refine Wk.topI (1 : Int32) (by decide) ?_
  refine Wk.iloadN X d30_42 43 rfl rfl ?_
  refine Wk.iastore X B hrn 1 rfl (by rw [List.length_set, List.length_map, hlB]; decide) d30_43 44 rfl ?_
  intro T h4 X W4
  have B := B.set W4
  have E := Exa.wr W4 E
  have N := N.wr W4
  have F_p := Fld.other W4 F_p (Or.inl (Ne.symm hra))
  have F_k := Fld.other W4 F_k (Or.inl (Ne.symm hra))
  have F_c := Fld.other W4 F_c (Or.inl (Ne.symm hra))
  have A_P := A_P.other W4 (Ne.symm hrP)
  have K := K.wr W4 (Or.inr hr0)
  have F_y := Fld.other W4 F_y (Or.inl (Ne.symm hra))
  replace B : Arl Z h4 r .int ((((ys ++ List.replicate 3 0).set 0 yr).set 1 hr).map Value.int) := by simpa [List.map_set] using B
  refine Wk.aloadN X d30_44 45 rfl rfl rfl ?_
  refine Wk.aloadN X d30_45 46 rfl rfl rfl ?_
  refine Wk.getfield X (t12 hw) Via.refl F_y d30_46 49 rfl ?_
  intro T X
  refine Wk.aloadN X d30_49 50 rfl rfl rfl ?_
  refine Wk.dup X d30_50 51 rfl rfl ?_
  refine Wk.getfield X (t55 hw) Via.refl F_c d30_51 54 rfl ?_
  intro T X
  refine Wk.dupX1 X d30_54 55 rfl rfl rfl ?_
  refine Wk.iconst X d30_55 56 rfl (1 : Int32) rfl ?_
  refine Wk.iadd X d30_56 57 rfl ?_
  refine Wk.topI (1 : Int32) (by decide) ?_
  refine Wk.putF X (t55 hw) Via.refl E N (Or.inl (t56 hw)) (t1 hw) (ty := .int) (by decide) rfl rfl hn d30_57 60 rfl ?_
  intro T h5 X W5 F_c_new
  have E := Exa.wr W5 E
  have N := N.wr W5
  have F_p := Fld.other W5 F_p (Or.inr (slot_ne (Or.inl (t11 hw)) (Or.inl (t56 hw)) (by decide) (t := (.array .int)) (t' := .int) (by decide) (by decide)))
  have F_k := Fld.other W5 F_k (Or.inr (slot_ne (Or.inl (t22 hw)) (Or.inl (t56 hw)) (by decide) (t := .int) (t' := .int) (by decide) (by decide)))
  have A_P := A_P.other W5 hPa
  have K := K.wr W5 (Or.inl (by simp))
  have B := B.other W5 hra
  have F_y := Fld.other W5 F_y (Or.inr (slot_ne (Or.inl (t13 hw)) (Or.inl (t56 hw)) (by decide) (t := (.array .int)) (t' := .int) (by decide) (by decide)))
  have F_c := F_c_new
  refine Wk.iloadN X d30_60 61 rfl rfl ?_
  refine Wk.iconst X d30_61 62 rfl (0 : Int32) rfl ?_
  refine Wk.iconst X d30_62 63 rfl (1 : Int32) rfl ?_
  have hlZ : (((ys ++ List.replicate 3 0).set 0 yr).set 1 hr).length = 3 := by rw [List.length_set, List.length_set, hlB]
  refine Wk.callP X (t57 hw) (t59 hw) (t58 hw) (t2 hw) (t60 hw) (t19 hw) rfl E (con_link0 l Z a0 hw [] h5 n0 a P r ps (((ys ++ List.replicate 3 0).set 0 yr).set 1 hr) q qN hq hq4 hps v hv (hvv.imp id fun ⟨m', e1, e2⟩ => ⟨m', e1, by rw [hlZ]; omega, by omega⟩) hlZ F_p A_P B nP hrn (Ne.symm hrP) (Ne.symm hPa) (Ne.symm hra)) (by decide) pd5 [(.ref r), (.int (0 : Int32)), (.int q), (.int (0 : Int32)), (.int (1 : Int32))] [] rfl rfl rfl rfl 0 (Nat.le_of_eq rfl) (by decide) (by decide) (by decide) (by decide) 1 24 rfl rfl d30_63 66 rfl ?_
  rintro _ T h6 X ⟨rfl, K6, A_P', A_Y'⟩
  show Wk p.tables e below _ (T.setTop (mkF m 66 #[.val (.ref a), .val (.int q), .val (.int yr), .val (.int hr), .val (.int (0 : Int32))] []))
  have E := Exa.keep E K6
  have N := N.keep K6
  have F_p := Fld.keep F_p K6 (ninS (Ne.symm hPa) (ninS (Ne.symm hra) nin0))
  have F_k := Fld.keep F_k K6 (ninS (Ne.symm hPa) (ninS (Ne.symm hra) nin0))
  have K := K.trans K6 (allS (Or.inl (by simp)) (allS (Or.inr hr0) all0))
  have F_y := Fld.keep F_y K6 (ninS (Ne.symm hPa) (ninS (Ne.symm hra) nin0))
  have F_c := Fld.keep F_c K6 (ninS (Ne.symm hPa) (ninS (Ne.symm hra) nin0))
  exact Wk.vreturn X d30_66 (by decide) (by decide) ⟨rfl, K, r, hr0, ⟨⟨E, N, hn⟩, ⟨F_p, F_k, F_y, F_c⟩, ⟨A_P', A_Y'⟩, ⟨nP, hrn⟩, Ne.symm hrP, hPa, hra⟩⟩
set_option maxRecDepth 65536 in
set_option maxHeartbeats 40000000 in
theorem con_room_1_3 (l : Launch) (Z : State) (a0 : Array Value) (hw : ∀ d ∈ tables_1, d.before a0 Z = true) (ws : List Jvm.Cond) (h0 : Heap) (n0 : Nat) (y : Addr) (vs : List Int32) (hlen : vs.length = 3) (A : Arl Z h0 y .int (vs.map Value.int)) (Z0 : n0 ≤ h0.size) :
    Con l (⟨"com/example/vestline/vestline/HoursHistories", "room", "([III)[I"⟩ : MethodName) prog_12_method_17_code 3 (some (.array .int)) ({ frames := 2, cells := 1, slots := 24, locals := 32 } : Room) ws Z #[(.ref y), (.int (1 : Int32)), (.int (3 : Int32))] h0 n0 (fun v h => ∃ r, v = some (.ref r) ∧ h0.size ≤ r ∧ Keep h0 h [] ∧ Arl Z h r .int ((vs ++ List.replicate 3 0).map Value.int)) := by
  refine Con.of (plainFor_of_name pn1) ?_
  intro p e s m below meth c T X nm
  rw [show entryFrame m #[(.ref y), (.int (1 : Int32)), (.int (3 : Int32))] 3 = mkF m 0 #[.val (.ref y), .val (.int (1 : Int32)), .val (.int (3 : Int32))] [] from by (first | (simp [entryFrame, mkF, argsToLocals, Value.category]; done) | rfl)]
  have hl : (vs.map Value.int).length.toInt32 = (3 : Int32) := by rw [List.length_map, hlen]; rfl
  refine Wk.iloadN X d9_0 1 rfl rfl ?_
  refine Wk.iconst X d9_1 2 rfl (1 : Int32) rfl ?_
  refine Wk.iadd X d9_2 3 rfl ?_
  refine Wk.topI (2 : Int32) (by decide) ?_
  refine Wk.iloadN X d9_3 4 rfl rfl ?_
  refine Wk.callS X (t26 hw) (t27 hw) (t28 hw) (t29 hw) (con_mul l Z a0 hw [] h0 n0 2 3 (by decide)) (by decide) pd0 [(.int (2 : Int32)), (.int (3 : Int32))] [] rfl rfl rfl rfl 0 (Nat.le_of_eq rfl) (by decide) (by decide) (by decide) (by decide) 0 0 rfl rfl d9_4 7 rfl ?_
  rintro _ T _ X ⟨rfl, rfl⟩
  show Wk p.tables e below _ (T.setTop (mkF m 7 #[.val (.ref y), .val (.int (1 : Int32)), .val (.int (3 : Int32))] [(.int ((2 : Int32).toInt64 * (3 : Int32).toInt64).toInt32)]))
  refine Wk.topI (6 : Int32) (by decide) ?_
  refine Wk.aloadN X d9_7 8 rfl rfl rfl ?_
  refine Wk.arraylength X A d9_8 9 rfl (3 : Int32) hl ?_
  refine Wk.icmpT X d9_9 14 (by decide) (show (3 : Int32) < (6 : Int32) from (by decide)) ?_
  refine Wk.aloadN X d9_14 15 rfl rfl rfl ?_
  refine Wk.iloadN X d9_15 16 rfl rfl ?_
  refine Wk.aloadN X d9_16 17 rfl rfl rfl ?_
  refine Wk.arraylength X A d9_17 18 rfl (3 : Int32) hl ?_
  refine Wk.iconst X d9_18 19 rfl (2 : Int32) rfl ?_
  refine Wk.callS X (t26 hw) (t27 hw) (t28 hw) (t29 hw) (con_mul l Z a0 hw [] h0 n0 3 2 (by decide)) (by decide) pd0 [(.int (3 : Int32)), (.int (2 : Int32))] [(.int (3 : Int32)), (.ref y)] rfl rfl rfl rfl 2 (Nat.le_of_eq rfl) (by decide) (by decide) (by decide) (by decide) 0 0 rfl rfl d9_19 22 rfl ?_
  rintro _ T _ X ⟨rfl, rfl⟩
  show Wk p.tables e below _ (T.setTop (mkF m 22 #[.val (.ref y), .val (.int (1 : Int32)), .val (.int (3 : Int32))] [(.int ((3 : Int32).toInt64 * (2 : Int32).toInt64).toInt32), (.int (3 : Int32)), (.ref y)]))
  refine Wk.topI (6 : Int32) (by decide) ?_
  refine Wk.callS X (t30 hw) (t31 hw) (t28 hw) (t32 hw) (con_max l Z a0 hw [] h0 n0 3 6) (by decide) pd0 [(.int (3 : Int32)), (.int (6 : Int32))] [(.ref y)] rfl rfl rfl rfl 1 (Nat.le_of_eq rfl) (by decide) (by decide) (by decide) (by decide) 0 0 rfl rfl d9_22 25 rfl ?_
  rintro _ T _ X ⟨rfl, rfl⟩
  show Wk p.tables e below _ (T.setTop (mkF m 25 #[.val (.ref y), .val (.int (1 : Int32)), .val (.int (3 : Int32))] [(.int (if (3 : Int32) < (6 : Int32) then (6 : Int32) else (3 : Int32))), (.ref y)]))
  refine Wk.topI (6 : Int32) (by decide) ?_
  refine Wk.callS X (t33 hw) (t34 hw) (t35 hw) (t36 hw) (con_copy l Z a0 hw [] h0 n0 y vs 6 6 rfl (by rw [hlen]; decide) (by decide) A Z0) (by decide) pd2 [(.ref y), (.int (6 : Int32))] [] rfl rfl rfl rfl 0 (Nat.le_of_eq rfl) (by decide) (by decide) (by decide) (by decide) 1 24 rfl rfl d9_25 28 rfl ?_
  rintro _ T h1 X ⟨r, rfl, hr0, K1, B⟩
  show Wk p.tables e below _ (T.setTop (mkF m 28 #[.val (.ref y), .val (.int (1 : Int32)), .val (.int (3 : Int32))] [(.ref r)]))
  exact Wk.areturn X d9_28 (by decide) (by decide) rfl rfl rfl ⟨r, rfl, hr0, K1, by rw [hlen] at B; exact B⟩
set_option maxRecDepth 65536 in
set_option maxHeartbeats 40000000 in
theorem con_link1 (l : Launch) (Z : State) (a0 : Array Value) (hw : ∀ d ∈ tables_1, d.before a0 Z = true) (ws : List Jvm.Cond) (h0 : Heap) (n0 : Nat) (a P Y : Addr) (ps zs : List Int32) (q : Int32) (qN : Nat) (hq : q.toInt = qN) (hq4 : qN < 4) (hps : 6 * qN + 5 < ps.length) (v : Int32) (hv : ps[6 * qN + 1]? = some v) (hvv : v = -1 ∨ ∃ m' : Nat, v.toInt = m' ∧ 3 * m' + 2 < zs.length ∧ m' < 4) (hlen : zs.length = 6) (F_p : Fld Z h0 a "com/example/vestline/vestline/HoursHistories" "participants" "[I" (.ref P)) (A_P : Arl Z h0 P .int (ps.map Value.int)) (A_Y : Arl Z h0 Y .int (zs.map Value.int)) (nP : n0 ≤ P) (nY : n0 ≤ Y) (hPY : P ≠ Y) (haP : a ≠ P) (haY : a ≠ Y) :
    Con l (⟨"com/example/vestline/vestline/HoursHistories", "link", "([IIIII)V"⟩ : MethodName) prog_12_method_16_code 8 none ({ frames := 0, cells := 0, slots := 0, locals := 0 } : Room) ws Z #[(.ref a), (.ref Y), (.int (1 : Int32)), (.int q), (.int (0 : Int32)), (.int (1 : Int32))] h0 n0 (fun r h => r = none ∧ Keep h0 h [P, Y] ∧ Arl Z h P .int ((lnkP v 1 qN ps).map Value.int) ∧ Arl Z h Y .int ((lnkY v 1 1 zs).map Value.int)) := by
  refine Con.of (plainFor_of_name pn1) ?_
  intro p e s m below meth c T X nm
  rw [show entryFrame m #[(.ref a), (.ref Y), (.int (1 : Int32)), (.int q), (.int (0 : Int32)), (.int (1 : Int32))] 8 = mkF m 0 #[.val (.ref a), .val (.ref Y), .val (.int (1 : Int32)), .val (.int q), .val (.int (0 : Int32)), .val (.int (1 : Int32)), .unset, .unset] [] from by (first | (simp [entryFrame, mkF, argsToLocals, Value.category]; done) | rfl)]
  have i0 := own_ixP 0 0 hq hq4 rfl (by decide)
  have i1 := own_ixP 1 1 hq hq4 rfl (by decide)
  have lP : (ps.map Value.int).length = ps.length := by simp
  refine Wk.aloadN X d33_0 1 rfl rfl rfl ?_
  refine Wk.iloadN X d33_1 2 rfl rfl ?_
  refine Wk.iconst X d33_2 3 rfl (3 : Int32) rfl ?_
  refine Wk.imul X d33_3 4 rfl ?_
  refine Wk.topI (3 : Int32) (by decide) ?_
  refine Wk.iconst X d33_4 5 rfl (2 : Int32) rfl ?_
  refine Wk.iadd X d33_5 6 rfl ?_
  refine Wk.topI (5 : Int32) (by decide) ?_
  refine Wk.iconst X d33_6 7 rfl (-1 : Int32) rfl ?_
  refine Wk.iastore X A_Y nY 5 rfl (by simp [hlen]) d33_7 8 rfl ?_
  intro T h1 X W1
  have A_P := A_P.other W1 hPY
  have A_Y := A_Y.set W1
  have F_p := Fld.other W1 F_p (Or.inl haY)
  refine Wk.iloadN X d33_8 9 rfl rfl ?_
  refine Wk.bipush X d33_9 11 rfl (6 : Int32) rfl ?_
  refine Wk.imul X d33_11 12 rfl ?_
  refine Wk.istore X d33_12 14 rfl #[.val (.ref a), .val (.ref Y), .val (.int (1 : Int32)), .val (.int q), .val (.int (0 : Int32)), .val (.int (1 : Int32)), .val (.int (q * (6 : Int32))), .unset] rfl ?_
  refine Wk.aloadN X d33_14 15 rfl rfl rfl ?_
  refine Wk.getfield X (t10 hw) Via.refl F_p d33_15 18 rfl ?_
  intro T X
  refine Wk.iload X d33_18 20 rfl rfl ?_
  refine Wk.iload X d33_20 22 rfl rfl ?_
  refine Wk.iadd X d33_22 23 rfl ?_
  refine Wk.iaload X A_P (6 * qN + 1) i1 (own_at hv) d33_23 24 rfl ?_
  refine Wk.istore X d33_24 26 rfl #[.val (.ref a), .val (.ref Y), .val (.int (1 : Int32)), .val (.int q), .val (.int (0 : Int32)), .val (.int (1 : Int32)), .val (.int (q * (6 : Int32))), .val (.int v)] rfl ?_
  refine Wk.iload X d33_26 28 rfl rfl ?_
  refine Wk.iconst X d33_28 29 rfl (-1 : Int32) rfl ?_
  refine Wk.icmp X d33_29 46 32 (by decide) rfl ?_ ?_
  · intro hc; change ¬ v = (-1 : Int32) at hc
    obtain ⟨m', e1, e2, e3⟩ := hvv.resolve_left hc
    have e4 : v.toInt.toNat = m' := by omega
    have i2 := own_ixY 2 2 e1 e3 rfl (by decide)
    refine Wk.aloadN X d33_46 47 rfl rfl rfl ?_
    refine Wk.iload X d33_47 49 rfl rfl ?_
    refine Wk.iconst X d33_49 50 rfl (3 : Int32) rfl ?_
    refine Wk.imul X d33_50 51 rfl ?_
    refine Wk.iconst X d33_51 52 rfl (2 : Int32) rfl ?_
    refine Wk.iadd X d33_52 53 rfl ?_
    refine Wk.iloadN X d33_53 54 rfl rfl ?_
    refine Wk.iastore X A_Y nY (3 * m' + 2) i2 (by simp; omega) d33_54 55 rfl ?_
    intro T h2 X W2
    have A_P := A_P.other W2 hPY
    have A_Y := A_Y.set W2
    have F_p := Fld.other W2 F_p (Or.inl haY)
    refine Wk.aloadN X d33_55 56 rfl rfl rfl ?_
    refine Wk.getfield X (t10 hw) Via.refl F_p d33_56 59 rfl ?_
    intro T X
    refine Wk.iload X d33_59 61 rfl rfl ?_
    refine Wk.iload X d33_61 63 rfl rfl ?_
    refine Wk.iadd X d33_63 64 rfl ?_
    refine Wk.iloadN X d33_64 65 rfl rfl ?_
    refine Wk.iastore X A_P nP (6 * qN + 1) i1 (by simp; omega) d33_65 66 rfl ?_
    intro T h3 X W3
    have A_P := A_P.set W3
    have A_Y := A_Y.other W3 (Ne.symm hPY)
    exact Wk.vreturn X d33_66 (by decide) (by decide) ⟨rfl, (((Keep.refl h0 [P, Y]).wr W1 (Or.inl (by simp))).wr W2 (Or.inl (by simp))).wr W3 (Or.inl (by simp)), by simpa [lnkP, hc, e4, List.map_set] using A_P, by simpa [lnkY, hc, e4, List.map_set] using A_Y⟩
  · intro hc; change v = (-1 : Int32) at hc
    refine Wk.aloadN X d33_32 33 rfl rfl rfl ?_
    refine Wk.getfield X (t10 hw) Via.refl F_p d33_33 36 rfl ?_
    intro T X
    refine Wk.iload X d33_36 38 rfl rfl ?_
    refine Wk.iload X d33_38 40 rfl rfl ?_
    refine Wk.iadd X d33_40 41 rfl ?_
    refine Wk.iloadN X d33_41 42 rfl rfl ?_
    refine Wk.iastore X A_P nP (6 * qN) i0 (by simp; omega) d33_42 43 rfl ?_
    intro T h2 X W2
    have A_P := A_P.set W2
    have A_Y := A_Y.other W2 (Ne.symm hPY)
    have F_p := Fld.other W2 F_p (Or.inl haP)
    refine Wk.goto X d33_43 55 (by decide) ?_
    refine Wk.aloadN X d33_55 56 rfl rfl rfl ?_
    refine Wk.getfield X (t10 hw) Via.refl F_p d33_56 59 rfl ?_
    intro T X
    refine Wk.iload X d33_59 61 rfl rfl ?_
    refine Wk.iload X d33_61 63 rfl rfl ?_
    refine Wk.iadd X d33_63 64 rfl ?_
    refine Wk.iloadN X d33_64 65 rfl rfl ?_
    refine Wk.iastore X A_P nP (6 * qN + 1) i1 (by simp; omega) d33_65 66 rfl ?_
    intro T h3 X W3
    have A_P := A_P.set W3
    have A_Y := A_Y.other W3 (Ne.symm hPY)
    exact Wk.vreturn X d33_66 (by decide) (by decide) ⟨rfl, (((Keep.refl h0 [P, Y]).wr W1 (Or.inl (by simp))).wr W2 (Or.inl (by simp))).wr W3 (Or.inl (by simp)), by simpa [lnkP, hc, List.map_set] using A_P, by simpa [lnkY, hc, List.map_set] using A_Y⟩
set_option maxRecDepth 65536 in
set_option maxHeartbeats 40000000 in
theorem con_addYear1 (l : Launch) (Z : State) (a0 : Array Value) (hw : ∀ d ∈ tables_1, d.before a0 Z = true) (ws : List Jvm.Cond) (h0 : Heap) (n0 : Nat) (a P Y : Addr) (pk yr hr : Int32) (ps ys : List Int32) (q : Int32) (qN : Nat) (hq : q.toInt = qN) (hq4 : qN < 4) (hps : 6 * qN + 5 < ps.length) (v : Int32) (hv : ps[6 * qN + 1]? = some v) (hvv : v = -1 ∨ ∃ m' : Nat, v.toInt = m' ∧ m' < 1) (hlen : ys.length = 3) (S : HS Z h0 n0 a P Y pk 1 ps ys) :
    Con l (⟨"com/example/vestline/vestline/HoursHistories", "addYear", "(III)V"⟩ : MethodName) prog_12_method_4_code 5 none ({ frames := 3, cells := 1, slots := 24, locals := 47 } : Room) ws Z #[(.ref a), (.int q), (.int yr), (.int hr)] h0 n0 (fun r h => r = none ∧ Keep h0 h [a, P] ∧ ∃ Y', h0.size ≤ Y' ∧ HS Z h n0 a P Y' pk 2 (lnkP v 1 qN ps) (lnkY v 1 1 (((ys ++ List.replicate 3 0).set 3 yr).set 4 hr))) := by
  refine Con.of (plainFor_of_name pn1) ?_
  intro p e s m below meth c T X nm
  rw [show entryFrame m #[(.ref a), (.int q), (.int yr), (.int hr)] 5 = mkF m 0 #[.val (.ref a), .val (.int q), .val (.int yr), .val (.int hr), .unset] [] from by (first | (simp [entryFrame, mkF, argsToLocals, Value.category]; done) | rfl)]
  obtain ⟨⟨E, N, hn⟩, ⟨F_p, F_k, F_y, F_c⟩, ⟨A_P, A_Y⟩, ⟨nP, nY⟩, hPY, hPa, hYa⟩ := S
  have K := Keep.refl h0 [a, P]
  have z0 : n0 ≤ h0.size := Nat.le_trans hn (Nat.le_of_lt (Exa.lt E))
  have hP0 := A_P.lt
  have ha0 := Exa.lt E
  refine Wk.aloadN X d30_0 1 rfl rfl rfl ?_
  refine Wk.aloadN X d30_1 2 rfl rfl rfl ?_
  refine Wk.getfield X (t12 hw) Via.refl F_y d30_2 5 rfl ?_
  intro T X
  refine Wk.aloadN X d30_5 6 rfl rfl rfl ?_
  refine Wk.getfield X (t55 hw) Via.refl F_c d30_6 9 rfl ?_
  intro T X
  refine Wk.iconst X d30_9 10 rfl (3 : Int32) rfl ?_
  refine Wk.callS X (t23 hw) (t24 hw) (t2 hw) (t25 hw) (con_room_1_3 l Z a0 hw [] h0 n0 Y ys hlen A_Y z0) (by decide) pd3 [(.ref Y), (.int (1 : Int32)), (.int (3 : Int32))] [(.ref a)] rfl rfl rfl rfl 1 (Nat.le_of_eq rfl) (by decide) (by decide) (by decide) (by decide) 1 24 rfl rfl d30_10 13 rfl ?_
  rintro _ T h1 X ⟨r, rfl, hr0, K1, B⟩
  show Wk p.tables e below _ (T.setTop (mkF m 13 #[.val (.ref a), .val (.int q), .val (.int yr), .val (.int hr), .unset] [(.ref r), (.ref a)]))
  have hra : r ≠ a := Ne.symm (Nat.ne_of_lt (Nat.lt_of_lt_of_le ha0 hr0))
  have hrP : r ≠ P := Ne.symm (Nat.ne_of_lt (Nat.lt_of_lt_of_le hP0 hr0))
  have hrn : n0 ≤ r := Nat.le_trans z0 hr0
  have hlB : (ys ++ List.replicate 3 0).length = 6 := by rw [List.length_append, hlen]; simp
  have E := Exa.keep E K1
  have N := N.keep K1
  have F_p := Fld.keep F_p K1 nin0
  have F_k := Fld.keep F_k K1 nin0
  have F_y := Fld.keep F_y K1 nin0
  have F_c := Fld.keep F_c K1 nin0
  have A_P := A_P.keep K1 nin0
  have K := K.trans K1 all0
  refine Wk.putF X (t12 hw) Via.refl E N (Or.inl (t13 hw)) (t1 hw) (ty := (.array .int)) (by decide) rfl rfl hn d30_13 16 rfl ?_
  intro T h2 X W2 F_y_new
  have E := Exa.wr W2 E
  have N := N.wr W2
  have F_p := Fld.other W2 F_p (Or.inr (slot_ne (Or.inl (t11 hw)) (Or.inl (t13 hw)) (by decide) (t := (.array .int)) (t' := (.array .int)) (by decide) (by decide)))
  have F_k := Fld.other W2 F_k (Or.inr (slot_ne (Or.inl (t22 hw)) (Or.inl (t13 hw)) (by decide) (t := .int) (t' := (.array .int)) (by decide) (by decide)))
  have F_c := Fld.other W2 F_c (Or.inr (slot_ne (Or.inl (t56 hw)) (Or.inl (t13 hw)) (by decide) (t := .int) (t' := (.array .int)) (by decide) (by decide)))
  have A_P := A_P.other W2 hPa
  have K := K.wr W2 (Or.inl (by simp))
  have B := B.other W2 hra
  have F_y := F_y_new
  refine Wk.aloadN X d30_16 17 rfl rfl rfl ?_
  refine Wk.getfield X (t55 hw) Via.refl F_c d30_17 20 rfl ?_
  intro T X
  refine Wk.iconst X d30_20 21 rfl (3 : Int32) rfl ?_
  refine Wk.imul X d30_21 22 rfl ?_
  refine Wk.topI (3 : Int32) (by decide) ?_
  refine Wk.istore X d30_22 24 rfl #[.val (.ref a), .val (.int q), .val (.int yr), .val (.int hr), .val (.int (3 : Int32))] rfl ?_
  refine Wk.aloadN X d30_24 25 rfl rfl rfl ?_
  refine Wk.getfield X (t12 hw) Via.refl F_y d30_25 28 rfl ?_
  intro T X
  refine Wk.iload X d30_28 30 rfl rfl ?_
  refine Wk.iconst X d30_30 31 rfl (0 : Int32) rfl ?_
  refine Wk.iadd X d30_31 32 rfl ?_
  refine Wk.topI (3 : Int32) (by decide) ?_
  refine Wk.iloadN X d30_32 33 rfl rfl ?_
  refine Wk.iastore X B hrn 3 rfl (by rw [List.length_map, hlB]; decide) d30_33 34 rfl ?_
  intro T h3 X W3
  have B := B.set W3
  have E := Exa.wr W3 E
  have N := N.wr W3
  have F_p := Fld.other W3 F_p (Or.inl (Ne.symm hra))
  have F_k := Fld.other W3 F_k (Or.inl (Ne.symm hra))
  have F_c := Fld.other W3 F_c (Or.inl (Ne.symm hra))
  have A_P := A_P.other W3 (Ne.symm hrP)
  have K := K.wr W3 (Or.inr hr0)
  have F_y := Fld.other W3 F_y (Or.inl (Ne.symm hra))
  refine Wk.aloadN X d30_34 35 rfl rfl rfl ?_
  refine Wk.getfield X (t12 hw) Via.refl F_y d30_35 38 rfl ?_
  intro T X
  refine Wk.iload X d30_38 40 rfl rfl ?_
  refine Wk.iconst X d30_40 41 rfl (1 : Int32) rfl ?_
  refine Wk.iadd X d30_41 42 rfl ?_
  refine Wk.topI (4 : Int32) (by decide) ?_
  refine Wk.iloadN X d30_42 43 rfl rfl ?_
  refine Wk.iastore X B hrn 4 rfl (by rw [List.length_set, List.length_map, hlB]; decide) d30_43 44 rfl ?_
  intro T h4 X W4
  have B := B.set W4
  have E := Exa.wr W4 E
  have N := N.wr W4
  have F_p := Fld.other W4 F_p (Or.inl (Ne.symm hra))
  have F_k := Fld.other W4 F_k (Or.inl (Ne.symm hra))
  have F_c := Fld.other W4 F_c (Or.inl (Ne.symm hra))
  have A_P := A_P.other W4 (Ne.symm hrP)
  have K := K.wr W4 (Or.inr hr0)
  have F_y := Fld.other W4 F_y (Or.inl (Ne.symm hra))
  replace B : Arl Z h4 r .int ((((ys ++ List.replicate 3 0).set 3 yr).set 4 hr).map Value.int) := by simpa [List.map_set] using B
  refine Wk.aloadN X d30_44 45 rfl rfl rfl ?_
  refine Wk.aloadN X d30_45 46 rfl rfl rfl ?_
  refine Wk.getfield X (t12 hw) Via.refl F_y d30_46 49 rfl ?_
  intro T X
  refine Wk.aloadN X d30_49 50 rfl rfl rfl ?_
  refine Wk.dup X d30_50 51 rfl rfl ?_
  refine Wk.getfield X (t55 hw) Via.refl F_c d30_51 54 rfl ?_
  intro T X
  refine Wk.dupX1 X d30_54 55 rfl rfl rfl ?_
  refine Wk.iconst X d30_55 56 rfl (1 : Int32) rfl ?_
  refine Wk.iadd X d30_56 57 rfl ?_
  refine Wk.topI (2 : Int32) (by decide) ?_
  refine Wk.putF X (t55 hw) Via.refl E N (Or.inl (t56 hw)) (t1 hw) (ty := .int) (by decide) rfl rfl hn d30_57 60 rfl ?_
  intro T h5 X W5 F_c_new
  have E := Exa.wr W5 E
  have N := N.wr W5
  have F_p := Fld.other W5 F_p (Or.inr (slot_ne (Or.inl (t11 hw)) (Or.inl (t56 hw)) (by decide) (t := (.array .int)) (t' := .int) (by decide) (by decide)))
  have F_k := Fld.other W5 F_k (Or.inr (slot_ne (Or.inl (t22 hw)) (Or.inl (t56 hw)) (by decide) (t := .int) (t' := .int) (by decide) (by decide)))
  have A_P := A_P.other W5 hPa
  have K := K.wr W5 (Or.inl (by simp))
  have B := B.other W5 hra
  have F_y := Fld.other W5 F_y (Or.inr (slot_ne (Or.inl (t13 hw)) (Or.inl (t56 hw)) (by decide) (t := (.array .int)) (t' := .int) (by decide) (by decide)))
  have F_c := F_c_new
  refine Wk.iloadN X d30_60 61 rfl rfl ?_
  refine Wk.iconst X d30_61 62 rfl (0 : Int32) rfl ?_
  refine Wk.iconst X d30_62 63 rfl (1 : Int32) rfl ?_
  have hlZ : (((ys ++ List.replicate 3 0).set 3 yr).set 4 hr).length = 6 := by rw [List.length_set, List.length_set, hlB]
  refine Wk.callP X (t57 hw) (t59 hw) (t58 hw) (t2 hw) (t60 hw) (t19 hw) rfl E (con_link1 l Z a0 hw [] h5 n0 a P r ps (((ys ++ List.replicate 3 0).set 3 yr).set 4 hr) q qN hq hq4 hps v hv (hvv.imp id fun ⟨m', e1, e2⟩ => ⟨m', e1, by rw [hlZ]; omega, by omega⟩) hlZ F_p A_P B nP hrn (Ne.symm hrP) (Ne.symm hPa) (Ne.symm hra)) (by decide) pd5 [(.ref r), (.int (1 : Int32)), (.int q), (.int (0 : Int32)), (.int (1 : Int32))] [] rfl rfl rfl rfl 0 (Nat.le_of_eq rfl) (by decide) (by decide) (by decide) (by decide) 1 24 rfl rfl d30_63 66 rfl ?_
  rintro _ T h6 X ⟨rfl, K6, A_P', A_Y'⟩
  show Wk p.tables e below _ (T.setTop (mkF m 66 #[.val (.ref a), .val (.int q), .val (.int yr), .val (.int hr), .val (.int (3 : Int32))] []))
  have E := Exa.keep E K6
  have N := N.keep K6
  have F_p := Fld.keep F_p K6 (ninS (Ne.symm hPa) (ninS (Ne.symm hra) nin0))
  have F_k := Fld.keep F_k K6 (ninS (Ne.symm hPa) (ninS (Ne.symm hra) nin0))
  have K := K.trans K6 (allS (Or.inl (by simp)) (allS (Or.inr hr0) all0))
  have F_y := Fld.keep F_y K6 (ninS (Ne.symm hPa) (ninS (Ne.symm hra) nin0))
  have F_c := Fld.keep F_c K6 (ninS (Ne.symm hPa) (ninS (Ne.symm hra) nin0))
  exact Wk.vreturn X d30_66 (by decide) (by decide) ⟨rfl, K, r, hr0, ⟨⟨E, N, hn⟩, ⟨F_p, F_k, F_y, F_c⟩, ⟨A_P', A_Y'⟩, ⟨nP, hrn⟩, Ne.symm hrP, hPa, hra⟩⟩
set_option maxRecDepth 65536 in
set_option maxHeartbeats 40000000 in
theorem con_room_2_3 (l : Launch) (Z : State) (a0 : Array Value) (hw : ∀ d ∈ tables_1, d.before a0 Z = true) (ws : List Jvm.Cond) (h0 : Heap) (n0 : Nat) (y : Addr) (vs : List Int32) (hlen : vs.length = 6) (A : Arl Z h0 y .int (vs.map Value.int)) (Z0 : n0 ≤ h0.size) :
    Con l (⟨"com/example/vestline/vestline/HoursHistories", "room", "([III)[I"⟩ : MethodName) prog_12_method_17_code 3 (some (.array .int)) ({ frames := 2, cells := 1, slots := 24, locals := 32 } : Room) ws Z #[(.ref y), (.int (2 : Int32)), (.int (3 : Int32))] h0 n0 (fun v h => ∃ r, v = some (.ref r) ∧ h0.size ≤ r ∧ Keep h0 h [] ∧ Arl Z h r .int ((vs ++ List.replicate 6 0).map Value.int)) := by
  refine Con.of (plainFor_of_name pn1) ?_
  intro p e s m below meth c T X nm
  rw [show entryFrame m #[(.ref y), (.int (2 : Int32)), (.int (3 : Int32))] 3 = mkF m 0 #[.val (.ref y), .val (.int (2 : Int32)), .val (.int (3 : Int32))] [] from by (first | (simp [entryFrame, mkF, argsToLocals, Value.category]; done) | rfl)]
  have hl : (vs.map Value.int).length.toInt32 = (6 : Int32) := by rw [List.length_map, hlen]; rfl
  refine Wk.iloadN X d9_0 1 rfl rfl ?_
  refine Wk.iconst X d9_1 2 rfl (1 : Int32) rfl ?_
  refine Wk.iadd X d9_2 3 rfl ?_
  refine Wk.topI (3 : Int32) (by decide) ?_
  refine Wk.iloadN X d9_3 4 rfl rfl ?_
  refine Wk.callS X (t26 hw) (t27 hw) (t28 hw) (t29 hw) (con_mul l Z a0 hw [] h0 n0 3 3 (by decide)) (by decide) pd0 [(.int (3 : Int32)), (.int (3 : Int32))] [] rfl rfl rfl rfl 0 (Nat.le_of_eq rfl) (by decide) (by decide) (by decide) (by decide) 0 0 rfl rfl d9_4 7 rfl ?_
  rintro _ T _ X ⟨rfl, rfl⟩
  show Wk p.tables e below _ (T.setTop (mkF m 7 #[.val (.ref y), .val (.int (2 : Int32)), .val (.int (3 : Int32))] [(.int ((3 : Int32).toInt64 * (3 : Int32).toInt64).toInt32)]))
  refine Wk.topI (9 : Int32) (by decide) ?_
  refine Wk.aloadN X d9_7 8 rfl rfl rfl ?_
  refine Wk.arraylength X A d9_8 9 rfl (6 : Int32) hl ?_
  refine Wk.icmpT X d9_9 14 (by decide) (show (6 : Int32) < (9 : Int32) from (by decide)) ?_
  refine Wk.aloadN X d9_14 15 rfl rfl rfl ?_
  refine Wk.iloadN X d9_15 16 rfl rfl ?_
  refine Wk.aloadN X d9_16 17 rfl rfl rfl ?_
  refine Wk.arraylength X A d9_17 18 rfl (6 : Int32) hl ?_
  refine Wk.iconst X d9_18 19 rfl (2 : Int32) rfl ?_
  refine Wk.callS X (t26 hw) (t27 hw) (t28 hw) (t29 hw) (con_mul l Z a0 hw [] h0 n0 6 2 (by decide)) (by decide) pd0 [(.int (6 : Int32)), (.int (2 : Int32))] [(.int (3 : Int32)), (.ref y)] rfl rfl rfl rfl 2 (Nat.le_of_eq rfl) (by decide) (by decide) (by decide) (by decide) 0 0 rfl rfl d9_19 22 rfl ?_
  rintro _ T _ X ⟨rfl, rfl⟩
  show Wk p.tables e below _ (T.setTop (mkF m 22 #[.val (.ref y), .val (.int (2 : Int32)), .val (.int (3 : Int32))] [(.int ((6 : Int32).toInt64 * (2 : Int32).toInt64).toInt32), (.int (3 : Int32)), (.ref y)]))
  refine Wk.topI (12 : Int32) (by decide) ?_
  refine Wk.callS X (t30 hw) (t31 hw) (t28 hw) (t32 hw) (con_max l Z a0 hw [] h0 n0 3 12) (by decide) pd0 [(.int (3 : Int32)), (.int (12 : Int32))] [(.ref y)] rfl rfl rfl rfl 1 (Nat.le_of_eq rfl) (by decide) (by decide) (by decide) (by decide) 0 0 rfl rfl d9_22 25 rfl ?_
  rintro _ T _ X ⟨rfl, rfl⟩
  show Wk p.tables e below _ (T.setTop (mkF m 25 #[.val (.ref y), .val (.int (2 : Int32)), .val (.int (3 : Int32))] [(.int (if (3 : Int32) < (12 : Int32) then (12 : Int32) else (3 : Int32))), (.ref y)]))
  refine Wk.topI (12 : Int32) (by decide) ?_
  refine Wk.callS X (t33 hw) (t34 hw) (t35 hw) (t36 hw) (con_copy l Z a0 hw [] h0 n0 y vs 12 12 rfl (by rw [hlen]; decide) (by decide) A Z0) (by decide) pd2 [(.ref y), (.int (12 : Int32))] [] rfl rfl rfl rfl 0 (Nat.le_of_eq rfl) (by decide) (by decide) (by decide) (by decide) 1 24 rfl rfl d9_25 28 rfl ?_
  rintro _ T h1 X ⟨r, rfl, hr0, K1, B⟩
  show Wk p.tables e below _ (T.setTop (mkF m 28 #[.val (.ref y), .val (.int (2 : Int32)), .val (.int (3 : Int32))] [(.ref r)]))
  exact Wk.areturn X d9_28 (by decide) (by decide) rfl rfl rfl ⟨r, rfl, hr0, K1, by rw [hlen] at B; exact B⟩
set_option maxRecDepth 65536 in
set_option maxHeartbeats 40000000 in
theorem con_link2 (l : Launch) (Z : State) (a0 : Array Value) (hw : ∀ d ∈ tables_1, d.before a0 Z = true) (ws : List Jvm.Cond) (h0 : Heap) (n0 : Nat) (a P Y : Addr) (ps zs : List Int32) (q : Int32) (qN : Nat) (hq : q.toInt = qN) (hq4 : qN < 4) (hps : 6 * qN + 5 < ps.length) (v : Int32) (hv : ps[6 * qN + 1]? = some v) (hvv : v = -1 ∨ ∃ m' : Nat, v.toInt = m' ∧ 3 * m' + 2 < zs.length ∧ m' < 4) (hlen : zs.length = 12) (F_p : Fld Z h0 a "com/example/vestline/vestline/HoursHistories" "participants" "[I" (.ref P)) (A_P : Arl Z h0 P .int (ps.map Value.int)) (A_Y : Arl Z h0 Y .int (zs.map Value.int)) (nP : n0 ≤ P) (nY : n0 ≤ Y) (hPY : P ≠ Y) (haP : a ≠ P) (haY : a ≠ Y) :
    Con l (⟨"com/example/vestline/vestline/HoursHistories", "link", "([IIIII)V"⟩ : MethodName) prog_12_method_16_code 8 none ({ frames := 0, cells := 0, slots := 0, locals := 0 } : Room) ws Z #[(.ref a), (.ref Y), (.int (2 : Int32)), (.int q), (.int (0 : Int32)), (.int (1 : Int32))] h0 n0 (fun r h => r = none ∧ Keep h0 h [P, Y] ∧ Arl Z h P .int ((lnkP v 2 qN ps).map Value.int) ∧ Arl Z h Y .int ((lnkY v 2 2 zs).map Value.int)) := by
  refine Con.of (plainFor_of_name pn1) ?_
  intro p e s m below meth c T X nm
  rw [show entryFrame m #[(.ref a), (.ref Y), (.int (2 : Int32)), (.int q), (.int (0 : Int32)), (.int (1 : Int32))] 8 = mkF m 0 #[.val (.ref a), .val (.ref Y), .val (.int (2 : Int32)), .val (.int q), .val (.int (0 : Int32)), .val (.int (1 : Int32)), .unset, .unset] [] from by (first | (simp [entryFrame, mkF, argsToLocals, Value.category]; done) | rfl)]
  have i0 := own_ixP 0 0 hq hq4 rfl (by decide)
  have i1 := own_ixP 1 1 hq hq4 rfl (by decide)
  have lP : (ps.map Value.int).length = ps.length := by simp
  refine Wk.aloadN X d33_0 1 rfl rfl rfl ?_
  refine Wk.iloadN X d33_1 2 rfl rfl ?_
  refine Wk.iconst X d33_2 3 rfl (3 : Int32) rfl ?_
  refine Wk.imul X d33_3 4 rfl ?_
  refine Wk.topI (6 : Int32) (by decide) ?_
  refine Wk.iconst X d33_4 5 rfl (2 : Int32) rfl ?_
  refine Wk.iadd X d33_5 6 rfl ?_
  refine Wk.topI (8 : Int32) (by decide) ?_
  refine Wk.iconst X d33_6 7 rfl (-1 : Int32) rfl ?_
  refine Wk.iastore X A_Y nY 8 rfl (by simp [hlen]) d33_7 8 rfl ?_
  intro T h1 X W1
  have A_P := A_P.other W1 hPY
  have A_Y := A_Y.set W1
  have F_p := Fld.other W1 F_p (Or.inl haY)
  refine Wk.iloadN X d33_8 9 rfl rfl ?_
  refine Wk.bipush X d33_9 11 rfl (6 : Int32) rfl ?_
  refine Wk.imul X d33_11 12 rfl ?_
  refine Wk.istore X d33_12 14 rfl #[.val (.ref a), .val (.ref Y), .val (.int (2 : Int32)), .val (.int q), .val (.int (0 : Int32)), .val (.int (1 : Int32)), .val (.int (q * (6 : Int32))), .unset] rfl ?_
  refine Wk.aloadN X d33_14 15 rfl rfl rfl ?_
  refine Wk.getfield X (t10 hw) Via.refl F_p d33_15 18 rfl ?_
  intro T X
  refine Wk.iload X d33_18 20 rfl rfl ?_
  refine Wk.iload X d33_20 22 rfl rfl ?_
  refine Wk.iadd X d33_22 23 rfl ?_
  refine Wk.iaload X A_P (6 * qN + 1) i1 (own_at hv) d33_23 24 rfl ?_
  refine Wk.istore X d33_24 26 rfl #[.val (.ref a), .val (.ref Y), .val (.int (2 : Int32)), .val (.int q), .val (.int (0 : Int32)), .val (.int (1 : Int32)), .val (.int (q * (6 : Int32))), .val (.int v)] rfl ?_
  refine Wk.iload X d33_26 28 rfl rfl ?_
  refine Wk.iconst X d33_28 29 rfl (-1 : Int32) rfl ?_
  refine Wk.icmp X d33_29 46 32 (by decide) rfl ?_ ?_
  · intro hc; change ¬ v = (-1 : Int32) at hc
    obtain ⟨m', e1, e2, e3⟩ := hvv.resolve_left hc
    have e4 : v.toInt.toNat = m' := by omega
    have i2 := own_ixY 2 2 e1 e3 rfl (by decide)
    refine Wk.aloadN X d33_46 47 rfl rfl rfl ?_
    refine Wk.iload X d33_47 49 rfl rfl ?_
    refine Wk.iconst X d33_49 50 rfl (3 : Int32) rfl ?_
    refine Wk.imul X d33_50 51 rfl ?_
    refine Wk.iconst X d33_51 52 rfl (2 : Int32) rfl ?_
    refine Wk.iadd X d33_52 53 rfl ?_
    refine Wk.iloadN X d33_53 54 rfl rfl ?_
    refine Wk.iastore X A_Y nY (3 * m' + 2) i2 (by simp; omega) d33_54 55 rfl ?_
    intro T h2 X W2
    have A_P := A_P.other W2 hPY
    have A_Y := A_Y.set W2
    have F_p := Fld.other W2 F_p (Or.inl haY)
    refine Wk.aloadN X d33_55 56 rfl rfl rfl ?_
    refine Wk.getfield X (t10 hw) Via.refl F_p d33_56 59 rfl ?_
    intro T X
    refine Wk.iload X d33_59 61 rfl rfl ?_
    refine Wk.iload X d33_61 63 rfl rfl ?_
    refine Wk.iadd X d33_63 64 rfl ?_
    refine Wk.iloadN X d33_64 65 rfl rfl ?_
    refine Wk.iastore X A_P nP (6 * qN + 1) i1 (by simp; omega) d33_65 66 rfl ?_
    intro T h3 X W3
    have A_P := A_P.set W3
    have A_Y := A_Y.other W3 (Ne.symm hPY)
    exact Wk.vreturn X d33_66 (by decide) (by decide) ⟨rfl, (((Keep.refl h0 [P, Y]).wr W1 (Or.inl (by simp))).wr W2 (Or.inl (by simp))).wr W3 (Or.inl (by simp)), by simpa [lnkP, hc, e4, List.map_set] using A_P, by simpa [lnkY, hc, e4, List.map_set] using A_Y⟩
  · intro hc; change v = (-1 : Int32) at hc
    refine Wk.aloadN X d33_32 33 rfl rfl rfl ?_
    refine Wk.getfield X (t10 hw) Via.refl F_p d33_33 36 rfl ?_
    intro T X
    refine Wk.iload X d33_36 38 rfl rfl ?_
    refine Wk.iload X d33_38 40 rfl rfl ?_
    refine Wk.iadd X d33_40 41 rfl ?_
    refine Wk.iloadN X d33_41 42 rfl rfl ?_
    refine Wk.iastore X A_P nP (6 * qN) i0 (by simp; omega) d33_42 43 rfl ?_
    intro T h2 X W2
    have A_P := A_P.set W2
    have A_Y := A_Y.other W2 (Ne.symm hPY)
    have F_p := Fld.other W2 F_p (Or.inl haP)
    refine Wk.goto X d33_43 55 (by decide) ?_
    refine Wk.aloadN X d33_55 56 rfl rfl rfl ?_
    refine Wk.getfield X (t10 hw) Via.refl F_p d33_56 59 rfl ?_
    intro T X
    refine Wk.iload X d33_59 61 rfl rfl ?_
    refine Wk.iload X d33_61 63 rfl rfl ?_
    refine Wk.iadd X d33_63 64 rfl ?_
    refine Wk.iloadN X d33_64 65 rfl rfl ?_
    refine Wk.iastore X A_P nP (6 * qN + 1) i1 (by simp; omega) d33_65 66 rfl ?_
    intro T h3 X W3
    have A_P := A_P.set W3
    have A_Y := A_Y.other W3 (Ne.symm hPY)
    exact Wk.vreturn X d33_66 (by decide) (by decide) ⟨rfl, (((Keep.refl h0 [P, Y]).wr W1 (Or.inl (by simp))).wr W2 (Or.inl (by simp))).wr W3 (Or.inl (by simp)), by simpa [lnkP, hc, List.map_set] using A_P, by simpa [lnkY, hc, List.map_set] using A_Y⟩
set_option maxRecDepth 65536 in
set_option maxHeartbeats 40000000 in
theorem con_addYear2 (l : Launch) (Z : State) (a0 : Array Value) (hw : ∀ d ∈ tables_1, d.before a0 Z = true) (ws : List Jvm.Cond) (h0 : Heap) (n0 : Nat) (a P Y : Addr) (pk yr hr : Int32) (ps ys : List Int32) (q : Int32) (qN : Nat) (hq : q.toInt = qN) (hq4 : qN < 4) (hps : 6 * qN + 5 < ps.length) (v : Int32) (hv : ps[6 * qN + 1]? = some v) (hvv : v = -1 ∨ ∃ m' : Nat, v.toInt = m' ∧ m' < 2) (hlen : ys.length = 6) (S : HS Z h0 n0 a P Y pk 2 ps ys) :
    Con l (⟨"com/example/vestline/vestline/HoursHistories", "addYear", "(III)V"⟩ : MethodName) prog_12_method_4_code 5 none ({ frames := 3, cells := 1, slots := 24, locals := 47 } : Room) ws Z #[(.ref a), (.int q), (.int yr), (.int hr)] h0 n0 (fun r h => r = none ∧ Keep h0 h [a, P] ∧ ∃ Y', h0.size ≤ Y' ∧ HS Z h n0 a P Y' pk 3 (lnkP v 2 qN ps) (lnkY v 2 2 (((ys ++ List.replicate 6 0).set 6 yr).set 7 hr))) := by
  refine Con.of (plainFor_of_name pn1) ?_
  intro p e s m below meth c T X nm
  rw [show entryFrame m #[(.ref a), (.int q), (.int yr), (.int hr)] 5 = mkF m 0 #[.val (.ref a), .val (.int q), .val (.int yr), .val (.int hr), .unset] [] from by (first | (simp [entryFrame, mkF, argsToLocals, Value.category]; done) | rfl)]
  obtain ⟨⟨E, N, hn⟩, ⟨F_p, F_k, F_y, F_c⟩, ⟨A_P, A_Y⟩, ⟨nP, nY⟩, hPY, hPa, hYa⟩ := S
  have K := Keep.refl h0 [a, P]
  have z0 : n0 ≤ h0.size := Nat.le_trans hn (Nat.le_of_lt (Exa.lt E))
  have hP0 := A_P.lt
  have ha0 := Exa.lt E
  refine Wk.aloadN X d30_0 1 rfl rfl rfl ?_
  refine Wk.aloadN X d30_1 2 rfl rfl rfl ?_
  refine Wk.getfield X (t12 hw) Via.refl F_y d30_2 5 rfl ?_
  intro T X
  refine Wk.aloadN X d30_5 6 rfl rfl rfl ?_
  refine Wk.getfield X (t55 hw) Via.refl F_c d30_6 9 rfl ?_
  intro T X
  refine Wk.iconst X d30_9 10 rfl (3 : Int32) rfl ?_
  refine Wk.callS X (t23 hw) (t24 hw) (t2 hw) (t25 hw) (con_room_2_3 l Z a0 hw [] h0 n0 Y ys hlen A_Y z0) (by decide) pd3 [(.ref Y), (.int (2 : Int32)), (.int (3 : Int32))] [(.ref a)] rfl rfl rfl rfl 1 (Nat.le_of_eq rfl) (by decide) (by decide) (by decide) (by decide) 1 24 rfl rfl d30_10 13 rfl ?_
  rintro _ T h1 X ⟨r, rfl, hr0, K1, B⟩
  show Wk p.tables e below _ (T.setTop (mkF m 13 #[.val (.ref a), .val (.int q), .val (.int yr), .val (.int hr), .unset] [(.ref r), (.ref a)]))
  have hra : r ≠ a := Ne.symm (Nat.ne_of_lt (Nat.lt_of_lt_of_le ha0 hr0))
  have hrP : r ≠ P := Ne.symm (Nat.ne_of_lt (Nat.lt_of_lt_of_le hP0 hr0))
  have hrn : n0 ≤ r := Nat.le_trans z0 hr0
  have hlB : (ys ++ List.replicate 6 0).length = 12 := by rw [List.length_append, hlen]; simp
  have E := Exa.keep E K1
  have N := N.keep K1
  have F_p := Fld.keep F_p K1 nin0
  have F_k := Fld.keep F_k K1 nin0
  have F_y := Fld.keep F_y K1 nin0
  have F_c := Fld.keep F_c K1 nin0
  have A_P := A_P.keep K1 nin0
  have K := K.trans K1 all0
  refine Wk.putF X (t12 hw) Via.refl E N (Or.inl (t13 hw)) (t1 hw) (ty := (.array .int)) (by decide) rfl rfl hn d30_13 16 rfl ?_
  intro T h2 X W2 F_y_new
  have E := Exa.wr W2 E
  have N := N.wr W2
  have F_p := Fld.other W2 F_p (Or.inr (slot_ne (Or.inl (t11 hw)) (Or.inl (t13 hw)) (by decide) (t := (.array .int)) (t' := (.array .int)) (by decide) (by decide)))
  have F_k := Fld.other W2 F_k (Or.inr (slot_ne (Or.inl (t22 hw)) (Or.inl (t13 hw)) (by decide) (t := .int) (t' := (.array .int)) (by decide) (by decide)))
  have F_c := Fld.other W2 F_c (Or.inr (slot_ne (Or.inl (t56 hw)) (Or.inl (t13 hw)) (by decide) (t := .int) (t' := (.array .int)) (by decide) (by decide)))
  have A_P := A_P.other W2 hPa
  have K := K.wr W2 (Or.inl (by simp))
  have B := B.other W2 hra
  have F_y := F_y_new
  refine Wk.aloadN X d30_16 17 rfl rfl rfl ?_
  refine Wk.getfield X (t55 hw) Via.refl F_c d30_17 20 rfl ?_
  intro T X
  refine Wk.iconst X d30_20 21 rfl (3 : Int32) rfl ?_
  refine Wk.imul X d30_21 22 rfl ?_
  refine Wk.topI (6 : Int32) (by decide) ?_
  refine Wk.istore X d30_22 24 rfl #[.val (.ref a), .val (.int q), .val (.int yr), .val (.int hr), .val (.int (6 : Int32))] rfl ?_
  refine Wk.aloadN X d30_24 25 rfl rfl rfl ?_
  refine Wk.getfield X (t12 hw) Via.refl F_y d30_25 28 rfl ?_
  intro T X
  refine Wk.iload X d30_28 30 rfl rfl ?_
  refine Wk.iconst X d30_30 31 rfl (0 : Int32) rfl ?_
  refine Wk.iadd X d30_31 32 rfl ?_
  refine Wk.topI (6 : Int32) (by decide) ?_
  refine Wk.iloadN X d30_32 33 rfl rfl ?_
  refine Wk.iastore X B hrn 6 rfl (by rw [List.length_map, hlB]; decide) d30_33 34 rfl ?_
  intro T h3 X W3
  have B := B.set W3
  have E := Exa.wr W3 E
  have N := N.wr W3
  have F_p := Fld.other W3 F_p (Or.inl (Ne.symm hra))
  have F_k := Fld.other W3 F_k (Or.inl (Ne.symm hra))
  have F_c := Fld.other W3 F_c (Or.inl (Ne.symm hra))
  have A_P := A_P.other W3 (Ne.symm hrP)
  have K := K.wr W3 (Or.inr hr0)
  have F_y := Fld.other W3 F_y (Or.inl (Ne.symm hra))
  refine Wk.aloadN X d30_34 35 rfl rfl rfl ?_
  refine Wk.getfield X (t12 hw) Via.refl F_y d30_35 38 rfl ?_
  intro T X
  refine Wk.iload X d30_38 40 rfl rfl ?_
  refine Wk.iconst X d30_40 41 rfl (1 : Int32) rfl ?_
  refine Wk.iadd X d30_41 42 rfl ?_
  refine Wk.topI (7 : Int32) (by decide) ?_
  refine Wk.iloadN X d30_42 43 rfl rfl ?_
  refine Wk.iastore X B hrn 7 rfl (by rw [List.length_set, List.length_map, hlB]; decide) d30_43 44 rfl ?_
  intro T h4 X W4
  have B := B.set W4
  have E := Exa.wr W4 E
  have N := N.wr W4
  have F_p := Fld.other W4 F_p (Or.inl (Ne.symm hra))
  have F_k := Fld.other W4 F_k (Or.inl (Ne.symm hra))
  have F_c := Fld.other W4 F_c (Or.inl (Ne.symm hra))
  have A_P := A_P.other W4 (Ne.symm hrP)
  have K := K.wr W4 (Or.inr hr0)
  have F_y := Fld.other W4 F_y (Or.inl (Ne.symm hra))
  replace B : Arl Z h4 r .int ((((ys ++ List.replicate 6 0).set 6 yr).set 7 hr).map Value.int) := by simpa [List.map_set] using B
  refine Wk.aloadN X d30_44 45 rfl rfl rfl ?_
  refine Wk.aloadN X d30_45 46 rfl rfl rfl ?_
  refine Wk.getfield X (t12 hw) Via.refl F_y d30_46 49 rfl ?_
  intro T X
  refine Wk.aloadN X d30_49 50 rfl rfl rfl ?_
  refine Wk.dup X d30_50 51 rfl rfl ?_
  refine Wk.getfield X (t55 hw) Via.refl F_c d30_51 54 rfl ?_
  intro T X
  refine Wk.dupX1 X d30_54 55 rfl rfl rfl ?_
  refine Wk.iconst X d30_55 56 rfl (1 : Int32) rfl ?_
  refine Wk.iadd X d30_56 57 rfl ?_
  refine Wk.topI (3 : Int32) (by decide) ?_
  refine Wk.putF X (t55 hw) Via.refl E N (Or.inl (t56 hw)) (t1 hw) (ty := .int) (by decide) rfl rfl hn d30_57 60 rfl ?_
  intro T h5 X W5 F_c_new
  have E := Exa.wr W5 E
  have N := N.wr W5
  have F_p := Fld.other W5 F_p (Or.inr (slot_ne (Or.inl (t11 hw)) (Or.inl (t56 hw)) (by decide) (t := (.array .int)) (t' := .int) (by decide) (by decide)))
  have F_k := Fld.other W5 F_k (Or.inr (slot_ne (Or.inl (t22 hw)) (Or.inl (t56 hw)) (by decide) (t := .int) (t' := .int) (by decide) (by decide)))
  have A_P := A_P.other W5 hPa
  have K := K.wr W5 (Or.inl (by simp))
  have B := B.other W5 hra
  have F_y := Fld.other W5 F_y (Or.inr (slot_ne (Or.inl (t13 hw)) (Or.inl (t56 hw)) (by decide) (t := (.array .int)) (t' := .int) (by decide) (by decide)))
  have F_c := F_c_new
  refine Wk.iloadN X d30_60 61 rfl rfl ?_
  refine Wk.iconst X d30_61 62 rfl (0 : Int32) rfl ?_
  refine Wk.iconst X d30_62 63 rfl (1 : Int32) rfl ?_
  have hlZ : (((ys ++ List.replicate 6 0).set 6 yr).set 7 hr).length = 12 := by rw [List.length_set, List.length_set, hlB]
  refine Wk.callP X (t57 hw) (t59 hw) (t58 hw) (t2 hw) (t60 hw) (t19 hw) rfl E (con_link2 l Z a0 hw [] h5 n0 a P r ps (((ys ++ List.replicate 6 0).set 6 yr).set 7 hr) q qN hq hq4 hps v hv (hvv.imp id fun ⟨m', e1, e2⟩ => ⟨m', e1, by rw [hlZ]; omega, by omega⟩) hlZ F_p A_P B nP hrn (Ne.symm hrP) (Ne.symm hPa) (Ne.symm hra)) (by decide) pd5 [(.ref r), (.int (2 : Int32)), (.int q), (.int (0 : Int32)), (.int (1 : Int32))] [] rfl rfl rfl rfl 0 (Nat.le_of_eq rfl) (by decide) (by decide) (by decide) (by decide) 1 24 rfl rfl d30_63 66 rfl ?_
  rintro _ T h6 X ⟨rfl, K6, A_P', A_Y'⟩
  show Wk p.tables e below _ (T.setTop (mkF m 66 #[.val (.ref a), .val (.int q), .val (.int yr), .val (.int hr), .val (.int (6 : Int32))] []))
  have E := Exa.keep E K6
  have N := N.keep K6
  have F_p := Fld.keep F_p K6 (ninS (Ne.symm hPa) (ninS (Ne.symm hra) nin0))
  have F_k := Fld.keep F_k K6 (ninS (Ne.symm hPa) (ninS (Ne.symm hra) nin0))
  have K := K.trans K6 (allS (Or.inl (by simp)) (allS (Or.inr hr0) all0))
  have F_y := Fld.keep F_y K6 (ninS (Ne.symm hPa) (ninS (Ne.symm hra) nin0))
  have F_c := Fld.keep F_c K6 (ninS (Ne.symm hPa) (ninS (Ne.symm hra) nin0))
  exact Wk.vreturn X d30_66 (by decide) (by decide) ⟨rfl, K, r, hr0, ⟨⟨E, N, hn⟩, ⟨F_p, F_k, F_y, F_c⟩, ⟨A_P', A_Y'⟩, ⟨nP, hrn⟩, Ne.symm hrP, hPa, hra⟩⟩
theorem d42_0 : decode prog_12_method_13_code 0 = .ok (.aload_n 0, 1) := by decide +kernel
theorem d42_1 : decode prog_12_method_13_code 1 = .ok (.getfield 7, 3) := by decide +kernel
theorem d42_4 : decode prog_12_method_13_code 4 = .ok (.iload_n 1, 1) := by decide +kernel
theorem d42_5 : decode prog_12_method_13_code 5 = .ok (.bipush 6, 2) := by decide +kernel
theorem d42_7 : decode prog_12_method_13_code 7 = .ok (.imul, 1) := by decide +kernel
theorem d42_8 : decode prog_12_method_13_code 8 = .ok (.iload_n 2, 1) := by decide +kernel
theorem d42_9 : decode prog_12_method_13_code 9 = .ok (.iadd, 1) := by decide +kernel
theorem d42_10 : decode prog_12_method_13_code 10 = .ok (.iaload, 1) := by decide +kernel
theorem d42_11 : decode prog_12_method_13_code 11 = .ok (.ireturn, 1) := by decide +kernel
set_option maxRecDepth 65536 in
set_option maxHeartbeats 40000000 in
theorem con_field0 (l : Launch) (Z : State) (a0 : Array Value) (hw : ∀ d ∈ tables_1, d.before a0 Z = true) (ws : List Jvm.Cond) (h0 : Heap) (n0 : Nat) (a P : Addr) (ps : List Int32) (q : Int32) (qN : Nat) (hq : q.toInt = qN) (hq4 : qN < 4) (hps : 6 * qN + 5 < ps.length) (v : Int32) (hv : ps[6 * qN + 0]? = some v) (F_p : Fld Z h0 a "com/example/vestline/vestline/HoursHistories" "participants" "[I" (.ref P)) (A_P : Arl Z h0 P .int (ps.map Value.int)) :
    Con l (⟨"com/example/vestline/vestline/HoursHistories", "field", "(II)I"⟩ : MethodName) prog_12_method_13_code 3 (some .int) ({ frames := 0, cells := 0, slots := 0, locals := 0 } : Room) ws Z #[(.ref a), (.int q), (.int (0 : Int32))] h0 n0 (fun r h => r = some (.int v) ∧ h0 = h) := by
  refine Con.of (plainFor_of_name pn1) ?_
  intro p e s m below meth c T X nm
  rw [show entryFrame m #[(.ref a), (.int q), (.int (0 : Int32))] 3 = mkF m 0 #[.val (.ref a), .val (.int q), .val (.int (0 : Int32))] [] from by (first | (simp [entryFrame, mkF, argsToLocals, Value.category]; done) | rfl)]
  refine Wk.aloadN X d42_0 1 rfl rfl rfl ?_
  refine Wk.getfield X (t10 hw) Via.refl F_p d42_1 4 rfl ?_
  intro T X
  refine Wk.iloadN X d42_4 5 rfl rfl ?_
  refine Wk.bipush X d42_5 7 rfl (6 : Int32) rfl ?_
  refine Wk.imul X d42_7 8 rfl ?_
  refine Wk.iloadN X d42_8 9 rfl rfl ?_
  refine Wk.iadd X d42_9 10 rfl ?_
  refine Wk.iaload X A_P (6 * qN + 0) (own_ixP 0 0 hq hq4 rfl (by decide)) (own_at hv) d42_10 11 rfl ?_
  exact Wk.ireturn X d42_11 (by decide) (by decide) ⟨rfl, rfl⟩
theorem d36_0 : decode method_3_code 0 = .ok (.aload_n 0, 1) := by decide +kernel
theorem d36_1 : decode method_3_code 1 = .ok (.iload_n 1, 1) := by decide +kernel
theorem d36_2 : decode method_3_code 2 = .ok (.iload_n 2, 1) := by decide +kernel
theorem d36_3 : decode method_3_code 3 = .ok (.iastore, 1) := by decide +kernel
theorem d36_4 : decode method_3_code 4 = .ok (.aload_n 0, 1) := by decide +kernel
theorem d36_5 : decode method_3_code 5 = .ok (.iload_n 1, 1) := by decide +kernel
theorem d36_6 : decode method_3_code 6 = .ok (.iconst 1, 1) := by decide +kernel
theorem d36_7 : decode method_3_code 7 = .ok (.iadd, 1) := by decide +kernel
theorem d36_8 : decode method_3_code 8 = .ok (.iload_n 3, 1) := by decide +kernel
theorem d36_9 : decode method_3_code 9 = .ok (.iastore, 1) := by decide +kernel
theorem d36_10 : decode method_3_code 10 = .ok (.iload_n 1, 1) := by decide +kernel
theorem d36_11 : decode method_3_code 11 = .ok (.iconst 2, 1) := by decide +kernel
theorem d36_12 : decode method_3_code 12 = .ok (.iadd, 1) := by decide +kernel
theorem d36_13 : decode method_3_code 13 = .ok (.ireturn, 1) := by decide +kernel
set_option maxRecDepth 65536 in
set_option maxHeartbeats 40000000 in
theorem con_put0 (l : Launch) (Z : State) (a0 : Array Value) (hw : ∀ d ∈ tables_1, d.before a0 Z = true) (ws : List Jvm.Cond) (h0 : Heap) (n0 : Nat) (y : Addr) (x z : Int32) (vs : List Int32) (hl : vs.length = 6) (hn : n0 ≤ y) (A : Arl Z h0 y .int (vs.map Value.int)) :
    Con l (⟨"com/example/vestline/vestline/HoursHistoriesYearsAndHoursPinLaw", "put", "([IIII)I"⟩ : MethodName) method_3_code 4 (some .int) ({ frames := 0, cells := 0, slots := 0, locals := 0 } : Room) ws Z #[(.ref y), (.int (0 : Int32)), (.int x), (.int z)] h0 n0 (fun r h => r = some (.int 2) ∧ Keep h0 h [y] ∧ Arl Z h y .int (((vs.set 0 x).set 1 z).map Value.int)) := by
  refine Con.of (plainFor_of_name pn2) ?_
  intro p e s m below meth c T X nm
  rw [show entryFrame m #[(.ref y), (.int (0 : Int32)), (.int x), (.int z)] 4 = mkF m 0 #[.val (.ref y), .val (.int (0 : Int32)), .val (.int x), .val (.int z)] [] from by (first | (simp [entryFrame, mkF, argsToLocals, Value.category]; done) | rfl)]
  refine Wk.aloadN X d36_0 1 rfl rfl rfl ?_
  refine Wk.iloadN X d36_1 2 rfl rfl ?_
  refine Wk.iloadN X d36_2 3 rfl rfl ?_
  refine Wk.iastore X A hn 0 rfl (by simp [hl]) d36_3 4 rfl ?_
  intro T h1 X W1
  have A := A.set W1
  refine Wk.aloadN X d36_4 5 rfl rfl rfl ?_
  refine Wk.iloadN X d36_5 6 rfl rfl ?_
  refine Wk.iconst X d36_6 7 rfl (1 : Int32) rfl ?_
  refine Wk.iadd X d36_7 8 rfl ?_
  refine Wk.topI (1 : Int32) (by decide) ?_
  refine Wk.iloadN X d36_8 9 rfl rfl ?_
  refine Wk.iastore X A hn 1 rfl (by simp [hl]) d36_9 10 rfl ?_
  intro T h2 X W2
  have A := A.set W2
  refine Wk.iloadN X d36_10 11 rfl rfl ?_
  refine Wk.iconst X d36_11 12 rfl (2 : Int32) rfl ?_
  refine Wk.iadd X d36_12 13 rfl ?_
  refine Wk.topI (2 : Int32) (by decide) ?_
  exact Wk.ireturn X d36_13 (by decide) (by decide) ⟨rfl, ((Keep.refl _ _).wr W1 (Or.inl (List.mem_singleton.mpr rfl))).wr W2 (Or.inl (List.mem_singleton.mpr rfl)), by simpa [List.map_set] using A⟩
set_option maxRecDepth 65536 in
set_option maxHeartbeats 40000000 in
theorem con_put2 (l : Launch) (Z : State) (a0 : Array Value) (hw : ∀ d ∈ tables_1, d.before a0 Z = true) (ws : List Jvm.Cond) (h0 : Heap) (n0 : Nat) (y : Addr) (x z : Int32) (vs : List Int32) (hl : vs.length = 6) (hn : n0 ≤ y) (A : Arl Z h0 y .int (vs.map Value.int)) :
    Con l (⟨"com/example/vestline/vestline/HoursHistoriesYearsAndHoursPinLaw", "put", "([IIII)I"⟩ : MethodName) method_3_code 4 (some .int) ({ frames := 0, cells := 0, slots := 0, locals := 0 } : Room) ws Z #[(.ref y), (.int (2 : Int32)), (.int x), (.int z)] h0 n0 (fun r h => r = some (.int 4) ∧ Keep h0 h [y] ∧ Arl Z h y .int (((vs.set 2 x).set 3 z).map Value.int)) := by
  refine Con.of (plainFor_of_name pn2) ?_
  intro p e s m below meth c T X nm
  rw [show entryFrame m #[(.ref y), (.int (2 : Int32)), (.int x), (.int z)] 4 = mkF m 0 #[.val (.ref y), .val (.int (2 : Int32)), .val (.int x), .val (.int z)] [] from by (first | (simp [entryFrame, mkF, argsToLocals, Value.category]; done) | rfl)]
  refine Wk.aloadN X d36_0 1 rfl rfl rfl ?_
  refine Wk.iloadN X d36_1 2 rfl rfl ?_
  refine Wk.iloadN X d36_2 3 rfl rfl ?_
  refine Wk.iastore X A hn 2 rfl (by simp [hl]) d36_3 4 rfl ?_
  intro T h1 X W1
  have A := A.set W1
  refine Wk.aloadN X d36_4 5 rfl rfl rfl ?_
  refine Wk.iloadN X d36_5 6 rfl rfl ?_
  refine Wk.iconst X d36_6 7 rfl (1 : Int32) rfl ?_
  refine Wk.iadd X d36_7 8 rfl ?_
  refine Wk.topI (3 : Int32) (by decide) ?_
  refine Wk.iloadN X d36_8 9 rfl rfl ?_
  refine Wk.iastore X A hn 3 rfl (by simp [hl]) d36_9 10 rfl ?_
  intro T h2 X W2
  have A := A.set W2
  refine Wk.iloadN X d36_10 11 rfl rfl ?_
  refine Wk.iconst X d36_11 12 rfl (2 : Int32) rfl ?_
  refine Wk.iadd X d36_12 13 rfl ?_
  refine Wk.topI (4 : Int32) (by decide) ?_
  exact Wk.ireturn X d36_13 (by decide) (by decide) ⟨rfl, ((Keep.refl _ _).wr W1 (Or.inl (List.mem_singleton.mpr rfl))).wr W2 (Or.inl (List.mem_singleton.mpr rfl)), by simpa [List.map_set] using A⟩
set_option maxRecDepth 65536 in
set_option maxHeartbeats 40000000 in
theorem con_put4 (l : Launch) (Z : State) (a0 : Array Value) (hw : ∀ d ∈ tables_1, d.before a0 Z = true) (ws : List Jvm.Cond) (h0 : Heap) (n0 : Nat) (y : Addr) (x z : Int32) (vs : List Int32) (hl : vs.length = 6) (hn : n0 ≤ y) (A : Arl Z h0 y .int (vs.map Value.int)) :
    Con l (⟨"com/example/vestline/vestline/HoursHistoriesYearsAndHoursPinLaw", "put", "([IIII)I"⟩ : MethodName) method_3_code 4 (some .int) ({ frames := 0, cells := 0, slots := 0, locals := 0 } : Room) ws Z #[(.ref y), (.int (4 : Int32)), (.int x), (.int z)] h0 n0 (fun r h => r = some (.int 6) ∧ Keep h0 h [y] ∧ Arl Z h y .int (((vs.set 4 x).set 5 z).map Value.int)) := by
  refine Con.of (plainFor_of_name pn2) ?_
  intro p e s m below meth c T X nm
  rw [show entryFrame m #[(.ref y), (.int (4 : Int32)), (.int x), (.int z)] 4 = mkF m 0 #[.val (.ref y), .val (.int (4 : Int32)), .val (.int x), .val (.int z)] [] from by (first | (simp [entryFrame, mkF, argsToLocals, Value.category]; done) | rfl)]
  refine Wk.aloadN X d36_0 1 rfl rfl rfl ?_
  refine Wk.iloadN X d36_1 2 rfl rfl ?_
  refine Wk.iloadN X d36_2 3 rfl rfl ?_
  refine Wk.iastore X A hn 4 rfl (by simp [hl]) d36_3 4 rfl ?_
  intro T h1 X W1
  have A := A.set W1
  refine Wk.aloadN X d36_4 5 rfl rfl rfl ?_
  refine Wk.iloadN X d36_5 6 rfl rfl ?_
  refine Wk.iconst X d36_6 7 rfl (1 : Int32) rfl ?_
  refine Wk.iadd X d36_7 8 rfl ?_
  refine Wk.topI (5 : Int32) (by decide) ?_
  refine Wk.iloadN X d36_8 9 rfl rfl ?_
  refine Wk.iastore X A hn 5 rfl (by simp [hl]) d36_9 10 rfl ?_
  intro T h2 X W2
  have A := A.set W2
  refine Wk.iloadN X d36_10 11 rfl rfl ?_
  refine Wk.iconst X d36_11 12 rfl (2 : Int32) rfl ?_
  refine Wk.iadd X d36_12 13 rfl ?_
  refine Wk.topI (6 : Int32) (by decide) ?_
  exact Wk.ireturn X d36_13 (by decide) (by decide) ⟨rfl, ((Keep.refl _ _).wr W1 (Or.inl (List.mem_singleton.mpr rfl))).wr W2 (Or.inl (List.mem_singleton.mpr rfl)), by simpa [List.map_set] using A⟩
theorem d45_0 : decode method_4_code 0 = .ok (.aload_n 0, 1) := by decide +kernel
theorem d45_1 : decode method_4_code 1 = .ok (.ifnull 9, 3) := by decide +kernel
theorem d45_4 : decode method_4_code 4 = .ok (.aload_n 0, 1) := by decide +kernel
theorem d45_5 : decode method_4_code 5 = .ok (.arraylength, 1) := by decide +kernel
theorem d45_6 : decode method_4_code 6 = .ok (.iload_n 2, 1) := by decide +kernel
theorem d45_7 : decode method_4_code 7 = .ok (.if_icmp .eq 5, 3) := by decide +kernel
theorem d45_12 : decode method_4_code 12 = .ok (.iload_n 2, 1) := by decide +kernel
theorem d45_13 : decode method_4_code 13 = .ok (.ifCond .le 12, 3) := by decide +kernel
theorem d45_25 : decode method_4_code 25 = .ok (.iload_n 2, 1) := by decide +kernel
theorem d45_26 : decode method_4_code 26 = .ok (.iconst 1, 1) := by decide +kernel
theorem d45_27 : decode method_4_code 27 = .ok (.if_icmp .le 12, 3) := by decide +kernel
theorem d45_39 : decode method_4_code 39 = .ok (.iload_n 2, 1) := by decide +kernel
theorem d45_40 : decode method_4_code 40 = .ok (.iconst 2, 1) := by decide +kernel
theorem d45_41 : decode method_4_code 41 = .ok (.if_icmp .le 12, 3) := by decide +kernel
theorem d45_53 : decode method_4_code 53 = .ok (.iload_n 2, 1) := by decide +kernel
theorem d45_54 : decode method_4_code 54 = .ok (.iconst 3, 1) := by decide +kernel
theorem d45_55 : decode method_4_code 55 = .ok (.if_icmp .le 12, 3) := by decide +kernel
theorem d45_67 : decode method_4_code 67 = .ok (.iload_n 2, 1) := by decide +kernel
theorem d45_68 : decode method_4_code 68 = .ok (.iconst 4, 1) := by decide +kernel
theorem d45_69 : decode method_4_code 69 = .ok (.if_icmp .le 12, 3) := by decide +kernel
theorem d45_81 : decode method_4_code 81 = .ok (.iload_n 2, 1) := by decide +kernel
theorem d45_82 : decode method_4_code 82 = .ok (.iconst 5, 1) := by decide +kernel
theorem d45_83 : decode method_4_code 83 = .ok (.if_icmp .le 12, 3) := by decide +kernel
theorem d45_95 : decode method_4_code 95 = .ok (.iconst 1, 1) := by decide +kernel
theorem d45_96 : decode method_4_code 96 = .ok (.goto 4, 3) := by decide +kernel
theorem d45_100 : decode method_4_code 100 = .ok (.ireturn, 1) := by decide +kernel
set_option maxRecDepth 65536 in
set_option maxHeartbeats 40000000 in
theorem con_same0 (l : Launch) (Z : State) (a0 : Array Value) (hw : ∀ d ∈ tables_1, d.before a0 Z = true) (ws : List Jvm.Cond) (h0 : Heap) (n0 : Nat) (r y : Addr) (w0 w1 w2 w3 w4 w5 : Int32) (A : Arl Z h0 r .int (([] : List Int32).map Value.int)) (B : Arl Z h0 y .int (([w0, w1, w2, w3, w4, w5] : List Int32).map Value.int)) :
    Con l (⟨"com/example/vestline/vestline/HoursHistoriesYearsAndHoursPinLaw", "same", "([I[II)Z"⟩ : MethodName) method_4_code 3 (some .boolean) ({ frames := 0, cells := 0, slots := 0, locals := 0 } : Room) ws Z #[(.ref r), (.ref y), (.int (0 : Int32))] h0 n0 (fun v h => v = some (.int 1) ∧ h0 = h) := by
  refine Con.of (plainFor_of_name pn2) ?_
  intro p e s m below meth c T X nm
  rw [show entryFrame m #[(.ref r), (.ref y), (.int (0 : Int32))] 3 = mkF m 0 #[.val (.ref r), .val (.ref y), .val (.int (0 : Int32))] [] from by (first | (simp [entryFrame, mkF, argsToLocals, Value.category]; done) | rfl)]
  refine Wk.aloadN X d45_0 1 rfl rfl rfl ?_
  refine Wk.ifnullF X d45_1 4 rfl ?_
  refine Wk.aloadN X d45_4 5 rfl rfl rfl ?_
  refine Wk.arraylength X A d45_5 6 rfl (0 : Int32) rfl ?_
  refine Wk.iloadN X d45_6 7 rfl rfl ?_
  refine Wk.icmpT X d45_7 12 (by decide) (show (0 : Int32) = (0 : Int32) from (by decide)) ?_
  refine Wk.iloadN X d45_12 13 rfl rfl ?_
  refine Wk.ifcT X d45_13 25 (by decide) (show ¬ (0 : Int32) < (0 : Int32) from (by decide)) ?_
  refine Wk.iloadN X d45_25 26 rfl rfl ?_
  refine Wk.iconst X d45_26 27 rfl (1 : Int32) rfl ?_
  refine Wk.icmpT X d45_27 39 (by decide) (show ¬ (1 : Int32) < (0 : Int32) from (by decide)) ?_
  refine Wk.iloadN X d45_39 40 rfl rfl ?_
  refine Wk.iconst X d45_40 41 rfl (2 : Int32) rfl ?_
  refine Wk.icmpT X d45_41 53 (by decide) (show ¬ (2 : Int32) < (0 : Int32) from (by decide)) ?_
  refine Wk.iloadN X d45_53 54 rfl rfl ?_
  refine Wk.iconst X d45_54 55 rfl (3 : Int32) rfl ?_
  refine Wk.icmpT X d45_55 67 (by decide) (show ¬ (3 : Int32) < (0 : Int32) from (by decide)) ?_
  refine Wk.iloadN X d45_67 68 rfl rfl ?_
  refine Wk.iconst X d45_68 69 rfl (4 : Int32) rfl ?_
  refine Wk.icmpT X d45_69 81 (by decide) (show ¬ (4 : Int32) < (0 : Int32) from (by decide)) ?_
  refine Wk.iloadN X d45_81 82 rfl rfl ?_
  refine Wk.iconst X d45_82 83 rfl (5 : Int32) rfl ?_
  refine Wk.icmpT X d45_83 95 (by decide) (show ¬ (5 : Int32) < (0 : Int32) from (by decide)) ?_
  refine Wk.iconst X d45_95 96 rfl (1 : Int32) rfl ?_
  refine Wk.goto X d45_96 100 (by decide) ?_
  exact Wk.zreturn X d45_100 (by decide) (by decide) (Or.inr rfl) ⟨rfl, rfl⟩
theorem d45_16 : decode method_4_code 16 = .ok (.aload_n 0, 1) := by decide +kernel
theorem d45_17 : decode method_4_code 17 = .ok (.iconst 0, 1) := by decide +kernel
theorem d45_18 : decode method_4_code 18 = .ok (.iaload, 1) := by decide +kernel
theorem d45_19 : decode method_4_code 19 = .ok (.aload_n 1, 1) := by decide +kernel
theorem d45_20 : decode method_4_code 20 = .ok (.iconst 0, 1) := by decide +kernel
theorem d45_21 : decode method_4_code 21 = .ok (.iaload, 1) := by decide +kernel
theorem d45_22 : decode method_4_code 22 = .ok (.if_icmp .ne 77, 3) := by decide +kernel
theorem d45_30 : decode method_4_code 30 = .ok (.aload_n 0, 1) := by decide +kernel
theorem d45_31 : decode method_4_code 31 = .ok (.iconst 1, 1) := by decide +kernel
theorem d45_32 : decode method_4_code 32 = .ok (.iaload, 1) := by decide +kernel
theorem d45_33 : decode method_4_code 33 = .ok (.aload_n 1, 1) := by decide +kernel
theorem d45_34 : decode method_4_code 34 = .ok (.iconst 1, 1) := by decide +kernel
theorem d45_35 : decode method_4_code 35 = .ok (.iaload, 1) := by decide +kernel
theorem d45_36 : decode method_4_code 36 = .ok (.if_icmp .ne 63, 3) := by decide +kernel
set_option maxRecDepth 65536 in
set_option maxHeartbeats 40000000 in
theorem con_same2 (l : Launch) (Z : State) (a0 : Array Value) (hw : ∀ d ∈ tables_1, d.before a0 Z = true) (ws : List Jvm.Cond) (h0 : Heap) (n0 : Nat) (r y : Addr) (u0 u1 w2 w3 w4 w5 : Int32) (A : Arl Z h0 r .int (([u0, u1] : List Int32).map Value.int)) (B : Arl Z h0 y .int (([u0, u1, w2, w3, w4, w5] : List Int32).map Value.int)) :
    Con l (⟨"com/example/vestline/vestline/HoursHistoriesYearsAndHoursPinLaw", "same", "([I[II)Z"⟩ : MethodName) method_4_code 3 (some .boolean) ({ frames := 0, cells := 0, slots := 0, locals := 0 } : Room) ws Z #[(.ref r), (.ref y), (.int (2 : Int32))] h0 n0 (fun v h => v = some (.int 1) ∧ h0 = h) := by
  refine Con.of (plainFor_of_name pn2) ?_
  intro p e s m below meth c T X nm
  rw [show entryFrame m #[(.ref r), (.ref y), (.int (2 : Int32))] 3 = mkF m 0 #[.val (.ref r), .val (.ref y), .val (.int (2 : Int32))] [] from by (first | (simp [entryFrame, mkF, argsToLocals, Value.category]; done) | rfl)]
  refine Wk.aloadN X d45_0 1 rfl rfl rfl ?_
  refine Wk.ifnullF X d45_1 4 rfl ?_
  refine Wk.aloadN X d45_4 5 rfl rfl rfl ?_
  refine Wk.arraylength X A d45_5 6 rfl (2 : Int32) rfl ?_
  refine Wk.iloadN X d45_6 7 rfl rfl ?_
  refine Wk.icmpT X d45_7 12 (by decide) (show (2 : Int32) = (2 : Int32) from (by decide)) ?_
  refine Wk.iloadN X d45_12 13 rfl rfl ?_
  refine Wk.ifcF X d45_13 16 rfl (show (0 : Int32) < (2 : Int32) from (by decide)) ?_
  refine Wk.aloadN X d45_16 17 rfl rfl rfl ?_
  refine Wk.iconst X d45_17 18 rfl (0 : Int32) rfl ?_
  refine Wk.iaload X A 0 rfl rfl d45_18 19 rfl ?_
  refine Wk.aloadN X d45_19 20 rfl rfl rfl ?_
  refine Wk.iconst X d45_20 21 rfl (0 : Int32) rfl ?_
  refine Wk.iaload X B 0 rfl rfl d45_21 22 rfl ?_
  refine Wk.icmpF X d45_22 25 rfl (show u0 = u0 from rfl) ?_
  refine Wk.iloadN X d45_25 26 rfl rfl ?_
  refine Wk.iconst X d45_26 27 rfl (1 : Int32) rfl ?_
  refine Wk.icmpF X d45_27 30 rfl (show (1 : Int32) < (2 : Int32) from (by decide)) ?_
  refine Wk.aloadN X d45_30 31 rfl rfl rfl ?_
  refine Wk.iconst X d45_31 32 rfl (1 : Int32) rfl ?_
  refine Wk.iaload X A 1 rfl rfl d45_32 33 rfl ?_
  refine Wk.aloadN X d45_33 34 rfl rfl rfl ?_
  refine Wk.iconst X d45_34 35 rfl (1 : Int32) rfl ?_
  refine Wk.iaload X B 1 rfl rfl d45_35 36 rfl ?_
  refine Wk.icmpF X d45_36 39 rfl (show u1 = u1 from rfl) ?_
  refine Wk.iloadN X d45_39 40 rfl rfl ?_
  refine Wk.iconst X d45_40 41 rfl (2 : Int32) rfl ?_
  refine Wk.icmpT X d45_41 53 (by decide) (show ¬ (2 : Int32) < (2 : Int32) from (by decide)) ?_
  refine Wk.iloadN X d45_53 54 rfl rfl ?_
  refine Wk.iconst X d45_54 55 rfl (3 : Int32) rfl ?_
  refine Wk.icmpT X d45_55 67 (by decide) (show ¬ (3 : Int32) < (2 : Int32) from (by decide)) ?_
  refine Wk.iloadN X d45_67 68 rfl rfl ?_
  refine Wk.iconst X d45_68 69 rfl (4 : Int32) rfl ?_
  refine Wk.icmpT X d45_69 81 (by decide) (show ¬ (4 : Int32) < (2 : Int32) from (by decide)) ?_
  refine Wk.iloadN X d45_81 82 rfl rfl ?_
  refine Wk.iconst X d45_82 83 rfl (5 : Int32) rfl ?_
  refine Wk.icmpT X d45_83 95 (by decide) (show ¬ (5 : Int32) < (2 : Int32) from (by decide)) ?_
  refine Wk.iconst X d45_95 96 rfl (1 : Int32) rfl ?_
  refine Wk.goto X d45_96 100 (by decide) ?_
  exact Wk.zreturn X d45_100 (by decide) (by decide) (Or.inr rfl) ⟨rfl, rfl⟩
theorem d45_44 : decode method_4_code 44 = .ok (.aload_n 0, 1) := by decide +kernel
theorem d45_45 : decode method_4_code 45 = .ok (.iconst 2, 1) := by decide +kernel
theorem d45_46 : decode method_4_code 46 = .ok (.iaload, 1) := by decide +kernel
theorem d45_47 : decode method_4_code 47 = .ok (.aload_n 1, 1) := by decide +kernel
theorem d45_48 : decode method_4_code 48 = .ok (.iconst 2, 1) := by decide +kernel
theorem d45_49 : decode method_4_code 49 = .ok (.iaload, 1) := by decide +kernel
theorem d45_50 : decode method_4_code 50 = .ok (.if_icmp .ne 49, 3) := by decide +kernel
theorem d45_58 : decode method_4_code 58 = .ok (.aload_n 0, 1) := by decide +kernel
theorem d45_59 : decode method_4_code 59 = .ok (.iconst 3, 1) := by decide +kernel
theorem d45_60 : decode method_4_code 60 = .ok (.iaload, 1) := by decide +kernel
theorem d45_61 : decode method_4_code 61 = .ok (.aload_n 1, 1) := by decide +kernel
theorem d45_62 : decode method_4_code 62 = .ok (.iconst 3, 1) := by decide +kernel
theorem d45_63 : decode method_4_code 63 = .ok (.iaload, 1) := by decide +kernel
theorem d45_64 : decode method_4_code 64 = .ok (.if_icmp .ne 35, 3) := by decide +kernel
set_option maxRecDepth 65536 in
set_option maxHeartbeats 40000000 in
theorem con_same4 (l : Launch) (Z : State) (a0 : Array Value) (hw : ∀ d ∈ tables_1, d.before a0 Z = true) (ws : List Jvm.Cond) (h0 : Heap) (n0 : Nat) (r y : Addr) (u0 u1 u2 u3 w4 w5 : Int32) (A : Arl Z h0 r .int (([u0, u1, u2, u3] : List Int32).map Value.int)) (B : Arl Z h0 y .int (([u0, u1, u2, u3, w4, w5] : List Int32).map Value.int)) :
    Con l (⟨"com/example/vestline/vestline/HoursHistoriesYearsAndHoursPinLaw", "same", "([I[II)Z"⟩ : MethodName) method_4_code 3 (some .boolean) ({ frames := 0, cells := 0, slots := 0, locals := 0 } : Room) ws Z #[(.ref r), (.ref y), (.int (4 : Int32))] h0 n0 (fun v h => v = some (.int 1) ∧ h0 = h) := by
  refine Con.of (plainFor_of_name pn2) ?_
  intro p e s m below meth c T X nm
  rw [show entryFrame m #[(.ref r), (.ref y), (.int (4 : Int32))] 3 = mkF m 0 #[.val (.ref r), .val (.ref y), .val (.int (4 : Int32))] [] from by (first | (simp [entryFrame, mkF, argsToLocals, Value.category]; done) | rfl)]
  refine Wk.aloadN X d45_0 1 rfl rfl rfl ?_
  refine Wk.ifnullF X d45_1 4 rfl ?_
  refine Wk.aloadN X d45_4 5 rfl rfl rfl ?_
  refine Wk.arraylength X A d45_5 6 rfl (4 : Int32) rfl ?_
  refine Wk.iloadN X d45_6 7 rfl rfl ?_
  refine Wk.icmpT X d45_7 12 (by decide) (show (4 : Int32) = (4 : Int32) from (by decide)) ?_
  refine Wk.iloadN X d45_12 13 rfl rfl ?_
  refine Wk.ifcF X d45_13 16 rfl (show (0 : Int32) < (4 : Int32) from (by decide)) ?_
  refine Wk.aloadN X d45_16 17 rfl rfl rfl ?_
  refine Wk.iconst X d45_17 18 rfl (0 : Int32) rfl ?_
  refine Wk.iaload X A 0 rfl rfl d45_18 19 rfl ?_
  refine Wk.aloadN X d45_19 20 rfl rfl rfl ?_
  refine Wk.iconst X d45_20 21 rfl (0 : Int32) rfl ?_
  refine Wk.iaload X B 0 rfl rfl d45_21 22 rfl ?_
  refine Wk.icmpF X d45_22 25 rfl (show u0 = u0 from rfl) ?_
  refine Wk.iloadN X d45_25 26 rfl rfl ?_
  refine Wk.iconst X d45_26 27 rfl (1 : Int32) rfl ?_
  refine Wk.icmpF X d45_27 30 rfl (show (1 : Int32) < (4 : Int32) from (by decide)) ?_
  refine Wk.aloadN X d45_30 31 rfl rfl rfl ?_
  refine Wk.iconst X d45_31 32 rfl (1 : Int32) rfl ?_
  refine Wk.iaload X A 1 rfl rfl d45_32 33 rfl ?_
  refine Wk.aloadN X d45_33 34 rfl rfl rfl ?_
  refine Wk.iconst X d45_34 35 rfl (1 : Int32) rfl ?_
  refine Wk.iaload X B 1 rfl rfl d45_35 36 rfl ?_
  refine Wk.icmpF X d45_36 39 rfl (show u1 = u1 from rfl) ?_
  refine Wk.iloadN X d45_39 40 rfl rfl ?_
  refine Wk.iconst X d45_40 41 rfl (2 : Int32) rfl ?_
  refine Wk.icmpF X d45_41 44 rfl (show (2 : Int32) < (4 : Int32) from (by decide)) ?_
  refine Wk.aloadN X d45_44 45 rfl rfl rfl ?_
  refine Wk.iconst X d45_45 46 rfl (2 : Int32) rfl ?_
  refine Wk.iaload X A 2 rfl rfl d45_46 47 rfl ?_
  refine Wk.aloadN X d45_47 48 rfl rfl rfl ?_
  refine Wk.iconst X d45_48 49 rfl (2 : Int32) rfl ?_
  refine Wk.iaload X B 2 rfl rfl d45_49 50 rfl ?_
  refine Wk.icmpF X d45_50 53 rfl (show u2 = u2 from rfl) ?_
  refine Wk.iloadN X d45_53 54 rfl rfl ?_
  refine Wk.iconst X d45_54 55 rfl (3 : Int32) rfl ?_
  refine Wk.icmpF X d45_55 58 rfl (show (3 : Int32) < (4 : Int32) from (by decide)) ?_
  refine Wk.aloadN X d45_58 59 rfl rfl rfl ?_
  refine Wk.iconst X d45_59 60 rfl (3 : Int32) rfl ?_
  refine Wk.iaload X A 3 rfl rfl d45_60 61 rfl ?_
  refine Wk.aloadN X d45_61 62 rfl rfl rfl ?_
  refine Wk.iconst X d45_62 63 rfl (3 : Int32) rfl ?_
  refine Wk.iaload X B 3 rfl rfl d45_63 64 rfl ?_
  refine Wk.icmpF X d45_64 67 rfl (show u3 = u3 from rfl) ?_
  refine Wk.iloadN X d45_67 68 rfl rfl ?_
  refine Wk.iconst X d45_68 69 rfl (4 : Int32) rfl ?_
  refine Wk.icmpT X d45_69 81 (by decide) (show ¬ (4 : Int32) < (4 : Int32) from (by decide)) ?_
  refine Wk.iloadN X d45_81 82 rfl rfl ?_
  refine Wk.iconst X d45_82 83 rfl (5 : Int32) rfl ?_
  refine Wk.icmpT X d45_83 95 (by decide) (show ¬ (5 : Int32) < (4 : Int32) from (by decide)) ?_
  refine Wk.iconst X d45_95 96 rfl (1 : Int32) rfl ?_
  refine Wk.goto X d45_96 100 (by decide) ?_
  exact Wk.zreturn X d45_100 (by decide) (by decide) (Or.inr rfl) ⟨rfl, rfl⟩
theorem d45_72 : decode method_4_code 72 = .ok (.aload_n 0, 1) := by decide +kernel
theorem d45_73 : decode method_4_code 73 = .ok (.iconst 4, 1) := by decide +kernel
theorem d45_74 : decode method_4_code 74 = .ok (.iaload, 1) := by decide +kernel
theorem d45_75 : decode method_4_code 75 = .ok (.aload_n 1, 1) := by decide +kernel
theorem d45_76 : decode method_4_code 76 = .ok (.iconst 4, 1) := by decide +kernel
theorem d45_77 : decode method_4_code 77 = .ok (.iaload, 1) := by decide +kernel
theorem d45_78 : decode method_4_code 78 = .ok (.if_icmp .ne 21, 3) := by decide +kernel
theorem d45_86 : decode method_4_code 86 = .ok (.aload_n 0, 1) := by decide +kernel
theorem d45_87 : decode method_4_code 87 = .ok (.iconst 5, 1) := by decide +kernel
theorem d45_88 : decode method_4_code 88 = .ok (.iaload, 1) := by decide +kernel
theorem d45_89 : decode method_4_code 89 = .ok (.aload_n 1, 1) := by decide +kernel
theorem d45_90 : decode method_4_code 90 = .ok (.iconst 5, 1) := by decide +kernel
theorem d45_91 : decode method_4_code 91 = .ok (.iaload, 1) := by decide +kernel
theorem d45_92 : decode method_4_code 92 = .ok (.if_icmp .ne 7, 3) := by decide +kernel
set_option maxRecDepth 65536 in
set_option maxHeartbeats 40000000 in
theorem con_same6 (l : Launch) (Z : State) (a0 : Array Value) (hw : ∀ d ∈ tables_1, d.before a0 Z = true) (ws : List Jvm.Cond) (h0 : Heap) (n0 : Nat) (r y : Addr) (u0 u1 u2 u3 u4 u5 : Int32) (A : Arl Z h0 r .int (([u0, u1, u2, u3, u4, u5] : List Int32).map Value.int)) (B : Arl Z h0 y .int (([u0, u1, u2, u3, u4, u5] : List Int32).map Value.int)) :
    Con l (⟨"com/example/vestline/vestline/HoursHistoriesYearsAndHoursPinLaw", "same", "([I[II)Z"⟩ : MethodName) method_4_code 3 (some .boolean) ({ frames := 0, cells := 0, slots := 0, locals := 0 } : Room) ws Z #[(.ref r), (.ref y), (.int (6 : Int32))] h0 n0 (fun v h => v = some (.int 1) ∧ h0 = h) := by
  refine Con.of (plainFor_of_name pn2) ?_
  intro p e s m below meth c T X nm
  rw [show entryFrame m #[(.ref r), (.ref y), (.int (6 : Int32))] 3 = mkF m 0 #[.val (.ref r), .val (.ref y), .val (.int (6 : Int32))] [] from by (first | (simp [entryFrame, mkF, argsToLocals, Value.category]; done) | rfl)]
  refine Wk.aloadN X d45_0 1 rfl rfl rfl ?_
  refine Wk.ifnullF X d45_1 4 rfl ?_
  refine Wk.aloadN X d45_4 5 rfl rfl rfl ?_
  refine Wk.arraylength X A d45_5 6 rfl (6 : Int32) rfl ?_
  refine Wk.iloadN X d45_6 7 rfl rfl ?_
  refine Wk.icmpT X d45_7 12 (by decide) (show (6 : Int32) = (6 : Int32) from (by decide)) ?_
  refine Wk.iloadN X d45_12 13 rfl rfl ?_
  refine Wk.ifcF X d45_13 16 rfl (show (0 : Int32) < (6 : Int32) from (by decide)) ?_
  refine Wk.aloadN X d45_16 17 rfl rfl rfl ?_
  refine Wk.iconst X d45_17 18 rfl (0 : Int32) rfl ?_
  refine Wk.iaload X A 0 rfl rfl d45_18 19 rfl ?_
  refine Wk.aloadN X d45_19 20 rfl rfl rfl ?_
  refine Wk.iconst X d45_20 21 rfl (0 : Int32) rfl ?_
  refine Wk.iaload X B 0 rfl rfl d45_21 22 rfl ?_
  refine Wk.icmpF X d45_22 25 rfl (show u0 = u0 from rfl) ?_
  refine Wk.iloadN X d45_25 26 rfl rfl ?_
  refine Wk.iconst X d45_26 27 rfl (1 : Int32) rfl ?_
  refine Wk.icmpF X d45_27 30 rfl (show (1 : Int32) < (6 : Int32) from (by decide)) ?_
  refine Wk.aloadN X d45_30 31 rfl rfl rfl ?_
  refine Wk.iconst X d45_31 32 rfl (1 : Int32) rfl ?_
  refine Wk.iaload X A 1 rfl rfl d45_32 33 rfl ?_
  refine Wk.aloadN X d45_33 34 rfl rfl rfl ?_
  refine Wk.iconst X d45_34 35 rfl (1 : Int32) rfl ?_
  refine Wk.iaload X B 1 rfl rfl d45_35 36 rfl ?_
  refine Wk.icmpF X d45_36 39 rfl (show u1 = u1 from rfl) ?_
  refine Wk.iloadN X d45_39 40 rfl rfl ?_
  refine Wk.iconst X d45_40 41 rfl (2 : Int32) rfl ?_
  refine Wk.icmpF X d45_41 44 rfl (show (2 : Int32) < (6 : Int32) from (by decide)) ?_
  refine Wk.aloadN X d45_44 45 rfl rfl rfl ?_
  refine Wk.iconst X d45_45 46 rfl (2 : Int32) rfl ?_
  refine Wk.iaload X A 2 rfl rfl d45_46 47 rfl ?_
  refine Wk.aloadN X d45_47 48 rfl rfl rfl ?_
  refine Wk.iconst X d45_48 49 rfl (2 : Int32) rfl ?_
  refine Wk.iaload X B 2 rfl rfl d45_49 50 rfl ?_
  refine Wk.icmpF X d45_50 53 rfl (show u2 = u2 from rfl) ?_
  refine Wk.iloadN X d45_53 54 rfl rfl ?_
  refine Wk.iconst X d45_54 55 rfl (3 : Int32) rfl ?_
  refine Wk.icmpF X d45_55 58 rfl (show (3 : Int32) < (6 : Int32) from (by decide)) ?_
  refine Wk.aloadN X d45_58 59 rfl rfl rfl ?_
  refine Wk.iconst X d45_59 60 rfl (3 : Int32) rfl ?_
  refine Wk.iaload X A 3 rfl rfl d45_60 61 rfl ?_
  refine Wk.aloadN X d45_61 62 rfl rfl rfl ?_
  refine Wk.iconst X d45_62 63 rfl (3 : Int32) rfl ?_
  refine Wk.iaload X B 3 rfl rfl d45_63 64 rfl ?_
  refine Wk.icmpF X d45_64 67 rfl (show u3 = u3 from rfl) ?_
  refine Wk.iloadN X d45_67 68 rfl rfl ?_
  refine Wk.iconst X d45_68 69 rfl (4 : Int32) rfl ?_
  refine Wk.icmpF X d45_69 72 rfl (show (4 : Int32) < (6 : Int32) from (by decide)) ?_
  refine Wk.aloadN X d45_72 73 rfl rfl rfl ?_
  refine Wk.iconst X d45_73 74 rfl (4 : Int32) rfl ?_
  refine Wk.iaload X A 4 rfl rfl d45_74 75 rfl ?_
  refine Wk.aloadN X d45_75 76 rfl rfl rfl ?_
  refine Wk.iconst X d45_76 77 rfl (4 : Int32) rfl ?_
  refine Wk.iaload X B 4 rfl rfl d45_77 78 rfl ?_
  refine Wk.icmpF X d45_78 81 rfl (show u4 = u4 from rfl) ?_
  refine Wk.iloadN X d45_81 82 rfl rfl ?_
  refine Wk.iconst X d45_82 83 rfl (5 : Int32) rfl ?_
  refine Wk.icmpF X d45_83 86 rfl (show (5 : Int32) < (6 : Int32) from (by decide)) ?_
  refine Wk.aloadN X d45_86 87 rfl rfl rfl ?_
  refine Wk.iconst X d45_87 88 rfl (5 : Int32) rfl ?_
  refine Wk.iaload X A 5 rfl rfl d45_88 89 rfl ?_
  refine Wk.aloadN X d45_89 90 rfl rfl rfl ?_
  refine Wk.iconst X d45_90 91 rfl (5 : Int32) rfl ?_
  refine Wk.iaload X B 5 rfl rfl d45_91 92 rfl ?_
  refine Wk.icmpF X d45_92 95 rfl (show u5 = u5 from rfl) ?_
  refine Wk.iconst X d45_95 96 rfl (1 : Int32) rfl ?_
  refine Wk.goto X d45_96 100 (by decide) ?_
  exact Wk.zreturn X d45_100 (by decide) (by decide) (Or.inr rfl) ⟨rfl, rfl⟩
theorem d39_0 : decode prog_12_method_11_code 0 = .ok (.iconst 0, 1) := by decide +kernel
theorem d39_1 : decode prog_12_method_11_code 1 = .ok (.istore_n 2, 1) := by decide +kernel
theorem d39_2 : decode prog_12_method_11_code 2 = .ok (.aload_n 0, 1) := by decide +kernel
theorem d39_3 : decode prog_12_method_11_code 3 = .ok (.iload_n 1, 1) := by decide +kernel
theorem d39_4 : decode prog_12_method_11_code 4 = .ok (.iconst 0, 1) := by decide +kernel
theorem d39_5 : decode prog_12_method_11_code 5 = .ok (.invokevirtual 40, 3) := by decide +kernel
theorem d39_8 : decode prog_12_method_11_code 8 = .ok (.istore_n 3, 1) := by decide +kernel
theorem d39_9 : decode prog_12_method_11_code 9 = .ok (.iload_n 3, 1) := by decide +kernel
theorem d39_10 : decode prog_12_method_11_code 10 = .ok (.iconst (-1), 1) := by decide +kernel
theorem d39_11 : decode prog_12_method_11_code 11 = .ok (.if_icmp .eq 20, 3) := by decide +kernel
theorem d39_14 : decode prog_12_method_11_code 14 = .ok (.iinc 2 1, 3) := by decide +kernel
theorem d39_17 : decode prog_12_method_11_code 17 = .ok (.aload_n 0, 1) := by decide +kernel
theorem d39_18 : decode prog_12_method_11_code 18 = .ok (.getfield 13, 3) := by decide +kernel
theorem d39_21 : decode prog_12_method_11_code 21 = .ok (.iload_n 3, 1) := by decide +kernel
theorem d39_22 : decode prog_12_method_11_code 22 = .ok (.iconst 3, 1) := by decide +kernel
theorem d39_23 : decode prog_12_method_11_code 23 = .ok (.imul, 1) := by decide +kernel
theorem d39_24 : decode prog_12_method_11_code 24 = .ok (.iconst 2, 1) := by decide +kernel
theorem d39_25 : decode prog_12_method_11_code 25 = .ok (.iadd, 1) := by decide +kernel
theorem d39_26 : decode prog_12_method_11_code 26 = .ok (.iaload, 1) := by decide +kernel
theorem d39_27 : decode prog_12_method_11_code 27 = .ok (.istore_n 3, 1) := by decide +kernel
theorem d39_28 : decode prog_12_method_11_code 28 = .ok (.goto (-19), 3) := by decide +kernel
theorem d39_31 : decode prog_12_method_11_code 31 = .ok (.iconst 2, 1) := by decide +kernel
theorem d39_32 : decode prog_12_method_11_code 32 = .ok (.iload_n 2, 1) := by decide +kernel
theorem d39_33 : decode prog_12_method_11_code 33 = .ok (.imul, 1) := by decide +kernel
theorem d39_34 : decode prog_12_method_11_code 34 = .ok (.newarray .int, 2) := by decide +kernel
theorem d39_36 : decode prog_12_method_11_code 36 = .ok (.astore_n 3, 1) := by decide +kernel
theorem d39_37 : decode prog_12_method_11_code 37 = .ok (.iconst 0, 1) := by decide +kernel
theorem d39_38 : decode prog_12_method_11_code 38 = .ok (.istore 4, 2) := by decide +kernel
theorem d39_40 : decode prog_12_method_11_code 40 = .ok (.aload_n 0, 1) := by decide +kernel
theorem d39_41 : decode prog_12_method_11_code 41 = .ok (.iload_n 1, 1) := by decide +kernel
theorem d39_42 : decode prog_12_method_11_code 42 = .ok (.iconst 0, 1) := by decide +kernel
theorem d39_43 : decode prog_12_method_11_code 43 = .ok (.invokevirtual 40, 3) := by decide +kernel
theorem d39_46 : decode prog_12_method_11_code 46 = .ok (.istore 5, 2) := by decide +kernel
theorem d39_48 : decode prog_12_method_11_code 48 = .ok (.iload 5, 2) := by decide +kernel
theorem d39_50 : decode prog_12_method_11_code 50 = .ok (.iconst (-1), 1) := by decide +kernel
theorem d39_51 : decode prog_12_method_11_code 51 = .ok (.if_icmp .eq 55, 3) := by decide +kernel
theorem d39_54 : decode prog_12_method_11_code 54 = .ok (.aload_n 3, 1) := by decide +kernel
theorem d39_55 : decode prog_12_method_11_code 55 = .ok (.iload 4, 2) := by decide +kernel
theorem d39_57 : decode prog_12_method_11_code 57 = .ok (.iinc 4 1, 3) := by decide +kernel
theorem d39_60 : decode prog_12_method_11_code 60 = .ok (.aload_n 0, 1) := by decide +kernel
theorem d39_61 : decode prog_12_method_11_code 61 = .ok (.getfield 13, 3) := by decide +kernel
theorem d39_64 : decode prog_12_method_11_code 64 = .ok (.iload 5, 2) := by decide +kernel
theorem d39_66 : decode prog_12_method_11_code 66 = .ok (.iconst 3, 1) := by decide +kernel
theorem d39_67 : decode prog_12_method_11_code 67 = .ok (.imul, 1) := by decide +kernel
theorem d39_68 : decode prog_12_method_11_code 68 = .ok (.iconst 0, 1) := by decide +kernel
theorem d39_69 : decode prog_12_method_11_code 69 = .ok (.iadd, 1) := by decide +kernel
theorem d39_70 : decode prog_12_method_11_code 70 = .ok (.iaload, 1) := by decide +kernel
theorem d39_71 : decode prog_12_method_11_code 71 = .ok (.iastore, 1) := by decide +kernel
theorem d39_72 : decode prog_12_method_11_code 72 = .ok (.aload_n 3, 1) := by decide +kernel
theorem d39_73 : decode prog_12_method_11_code 73 = .ok (.iload 4, 2) := by decide +kernel
theorem d39_75 : decode prog_12_method_11_code 75 = .ok (.iinc 4 1, 3) := by decide +kernel
theorem d39_78 : decode prog_12_method_11_code 78 = .ok (.aload_n 0, 1) := by decide +kernel
theorem d39_79 : decode prog_12_method_11_code 79 = .ok (.getfield 13, 3) := by decide +kernel
theorem d39_82 : decode prog_12_method_11_code 82 = .ok (.iload 5, 2) := by decide +kernel
theorem d39_84 : decode prog_12_method_11_code 84 = .ok (.iconst 3, 1) := by decide +kernel
theorem d39_85 : decode prog_12_method_11_code 85 = .ok (.imul, 1) := by decide +kernel
theorem d39_86 : decode prog_12_method_11_code 86 = .ok (.iconst 1, 1) := by decide +kernel
theorem d39_87 : decode prog_12_method_11_code 87 = .ok (.iadd, 1) := by decide +kernel
theorem d39_88 : decode prog_12_method_11_code 88 = .ok (.iaload, 1) := by decide +kernel
theorem d39_89 : decode prog_12_method_11_code 89 = .ok (.iastore, 1) := by decide +kernel
theorem d39_90 : decode prog_12_method_11_code 90 = .ok (.aload_n 0, 1) := by decide +kernel
theorem d39_91 : decode prog_12_method_11_code 91 = .ok (.getfield 13, 3) := by decide +kernel
theorem d39_94 : decode prog_12_method_11_code 94 = .ok (.iload 5, 2) := by decide +kernel
theorem d39_96 : decode prog_12_method_11_code 96 = .ok (.iconst 3, 1) := by decide +kernel
theorem d39_97 : decode prog_12_method_11_code 97 = .ok (.imul, 1) := by decide +kernel
theorem d39_98 : decode prog_12_method_11_code 98 = .ok (.iconst 2, 1) := by decide +kernel
theorem d39_99 : decode prog_12_method_11_code 99 = .ok (.iadd, 1) := by decide +kernel
theorem d39_100 : decode prog_12_method_11_code 100 = .ok (.iaload, 1) := by decide +kernel
theorem d39_101 : decode prog_12_method_11_code 101 = .ok (.istore 5, 2) := by decide +kernel
theorem d39_103 : decode prog_12_method_11_code 103 = .ok (.goto (-55), 3) := by decide +kernel
theorem d39_106 : decode prog_12_method_11_code 106 = .ok (.aload_n 3, 1) := by decide +kernel
theorem d39_107 : decode prog_12_method_11_code 107 = .ok (.areturn, 1) := by decide +kernel
set_option maxRecDepth 65536 in
set_option maxHeartbeats 40000000 in
theorem con_yah_012 (l : Launch) (Z : State) (a0 : Array Value) (hw : ∀ d ∈ tables_1, d.before a0 Z = true) (ws : List Jvm.Cond) (h0 : Heap) (n0 : Nat) (a P Y : Addr) (pk yc : Int32) (ps ys : List Int32) (q : Int32) (qN : Nat) (hq : q.toInt = qN) (hq4 : qN < 4) (hps : 6 * qN + 5 < ps.length) (hf : ps[6 * qN + 0]? = some (0 : Int32)) (y0 z0 : Int32) (hy0 : ys[0]? = some y0) (hz0 : ys[1]? = some z0) (hn0 : ys[2]? = some (1 : Int32)) (y1 z1 : Int32) (hy1 : ys[3]? = some y1) (hz1 : ys[4]? = some z1) (hn1 : ys[5]? = some (2 : Int32)) (y2 z2 : Int32) (hy2 : ys[6]? = some y2) (hz2 : ys[7]? = some z2) (hn2 : ys[8]? = some (-1 : Int32)) (S : HS Z h0 n0 a P Y pk yc ps ys) :
    Con l (⟨"com/example/vestline/vestline/HoursHistories", "yearsAndHours", "(I)[I"⟩ : MethodName) prog_12_method_11_code 6 (some (.array .int)) ({ frames := 1, cells := 1, slots := 6, locals := 14 } : Room) ws Z #[(.ref a), (.int q)] h0 n0 (fun v h => ∃ r, v = some (.ref r) ∧ h0.size ≤ r ∧ Keep h0 h [] ∧ Arl Z h r .int (([y0, z0, y1, z1, y2, z2] : List Int32).map Value.int)) := by
  refine Con.of (plainFor_of_name pn1) ?_
  intro p e s m below meth c T X nm
  rw [show entryFrame m #[(.ref a), (.int q)] 6 = mkF m 0 #[.val (.ref a), .val (.int q), .unset, .unset, .unset, .unset] [] from by (first | (simp [entryFrame, mkF, argsToLocals, Value.category]; done) | rfl)]
  obtain ⟨⟨E, N, hn⟩, ⟨F_p, F_k, F_y, F_c⟩, ⟨A_P, A_Y⟩, ⟨nP, nY⟩, hPY, hPa, hYa⟩ := S
  have K := Keep.refl h0 []
  refine Wk.iconst X d39_0 1 rfl (0 : Int32) rfl ?_
  refine Wk.istoreN X d39_1 2 rfl #[.val (.ref a), .val (.int q), .val (.int (0 : Int32)), .unset, .unset, .unset] rfl ?_
  refine Wk.aloadN X d39_2 3 rfl rfl rfl ?_
  refine Wk.iloadN X d39_3 4 rfl rfl ?_
  refine Wk.iconst X d39_4 5 rfl (0 : Int32) rfl ?_
  refine Wk.callP X (t70 hw) (t72 hw) (t71 hw) (t2 hw) (t73 hw) (t19 hw) rfl E (con_field0 l Z a0 hw [] h0 n0 a P ps q qN hq hq4 hps (0) hf F_p A_P) (by decide) pd0 [(.int q), (.int (0 : Int32))] [] rfl rfl rfl rfl 0 (Nat.le_of_eq rfl) (by decide) (by decide) (by decide) (by decide) 0 0 rfl rfl d39_5 8 rfl ?_
  rintro _ T _ X ⟨rfl, rfl⟩
  show Wk p.tables e below _ (T.setTop (mkF m 8 #[.val (.ref a), .val (.int q), .val (.int (0 : Int32)), .unset, .unset, .unset] [(.int (0 : Int32))]))
  refine Wk.istoreN X d39_8 9 rfl #[.val (.ref a), .val (.int q), .val (.int (0 : Int32)), .val (.int (0 : Int32)), .unset, .unset] rfl ?_
  refine Wk.iloadN X d39_9 10 rfl rfl ?_
  refine Wk.iconst X d39_10 11 rfl (-1 : Int32) rfl ?_
  refine Wk.icmpF X d39_11 14 rfl (show ¬ (0 : Int32) = (-1 : Int32) from (by decide)) ?_
  refine Wk.iinc X d39_14 17 rfl #[.val (.ref a), .val (.int q), .val (.int (1 : Int32)), .val (.int (0 : Int32)), .unset, .unset] rfl rfl ?_
  refine Wk.aloadN X d39_17 18 rfl rfl rfl ?_
  refine Wk.getfield X (t12 hw) Via.refl F_y d39_18 21 rfl ?_
  intro T X
  refine Wk.iloadN X d39_21 22 rfl rfl ?_
  refine Wk.iconst X d39_22 23 rfl (3 : Int32) rfl ?_
  refine Wk.imul X d39_23 24 rfl ?_
  refine Wk.topI (0 : Int32) (by decide) ?_
  refine Wk.iconst X d39_24 25 rfl (2 : Int32) rfl ?_
  refine Wk.iadd X d39_25 26 rfl ?_
  refine Wk.topI (2 : Int32) (by decide) ?_
  refine Wk.iaload X A_Y 2 rfl (own_at hn0) d39_26 27 rfl ?_
  refine Wk.istoreN X d39_27 28 rfl #[.val (.ref a), .val (.int q), .val (.int (1 : Int32)), .val (.int (1 : Int32)), .unset, .unset] rfl ?_
  refine Wk.goto X d39_28 9 (by decide) ?_
  refine Wk.iloadN X d39_9 10 rfl rfl ?_
  refine Wk.iconst X d39_10 11 rfl (-1 : Int32) rfl ?_
  refine Wk.icmpF X d39_11 14 rfl (show ¬ (1 : Int32) = (-1 : Int32) from (by decide)) ?_
  refine Wk.iinc X d39_14 17 rfl #[.val (.ref a), .val (.int q), .val (.int (2 : Int32)), .val (.int (1 : Int32)), .unset, .unset] rfl rfl ?_
  refine Wk.aloadN X d39_17 18 rfl rfl rfl ?_
  refine Wk.getfield X (t12 hw) Via.refl F_y d39_18 21 rfl ?_
  intro T X
  refine Wk.iloadN X d39_21 22 rfl rfl ?_
  refine Wk.iconst X d39_22 23 rfl (3 : Int32) rfl ?_
  refine Wk.imul X d39_23 24 rfl ?_
  refine Wk.topI (3 : Int32) (by decide) ?_
  refine Wk.iconst X d39_24 25 rfl (2 : Int32) rfl ?_
  refine Wk.iadd X d39_25 26 rfl ?_
  refine Wk.topI (5 : Int32) (by decide) ?_
  refine Wk.iaload X A_Y 5 rfl (own_at hn1) d39_26 27 rfl ?_
  refine Wk.istoreN X d39_27 28 rfl #[.val (.ref a), .val (.int q), .val (.int (2 : Int32)), .val (.int (2 : Int32)), .unset, .unset] rfl ?_
  refine Wk.goto X d39_28 9 (by decide) ?_
  refine Wk.iloadN X d39_9 10 rfl rfl ?_
  refine Wk.iconst X d39_10 11 rfl (-1 : Int32) rfl ?_
  refine Wk.icmpF X d39_11 14 rfl (show ¬ (2 : Int32) = (-1 : Int32) from (by decide)) ?_
  refine Wk.iinc X d39_14 17 rfl #[.val (.ref a), .val (.int q), .val (.int (3 : Int32)), .val (.int (2 : Int32)), .unset, .unset] rfl rfl ?_
  refine Wk.aloadN X d39_17 18 rfl rfl rfl ?_
  refine Wk.getfield X (t12 hw) Via.refl F_y d39_18 21 rfl ?_
  intro T X
  refine Wk.iloadN X d39_21 22 rfl rfl ?_
  refine Wk.iconst X d39_22 23 rfl (3 : Int32) rfl ?_
  refine Wk.imul X d39_23 24 rfl ?_
  refine Wk.topI (6 : Int32) (by decide) ?_
  refine Wk.iconst X d39_24 25 rfl (2 : Int32) rfl ?_
  refine Wk.iadd X d39_25 26 rfl ?_
  refine Wk.topI (8 : Int32) (by decide) ?_
  refine Wk.iaload X A_Y 8 rfl (own_at hn2) d39_26 27 rfl ?_
  refine Wk.istoreN X d39_27 28 rfl #[.val (.ref a), .val (.int q), .val (.int (3 : Int32)), .val (.int (-1 : Int32)), .unset, .unset] rfl ?_
  refine Wk.goto X d39_28 9 (by decide) ?_
  refine Wk.iloadN X d39_9 10 rfl rfl ?_
  refine Wk.iconst X d39_10 11 rfl (-1 : Int32) rfl ?_
  refine Wk.icmpT X d39_11 31 (by decide) (show (-1 : Int32) = (-1 : Int32) from (by decide)) ?_
  refine Wk.iconst X d39_31 32 rfl (2 : Int32) rfl ?_
  refine Wk.iloadN X d39_32 33 rfl rfl ?_
  refine Wk.imul X d39_33 34 rfl ?_
  refine Wk.topI (6 : Int32) (by decide) ?_
  refine Wk.newarray (aty := .int) X (t9 hw) d39_34 36 rfl 6 rfl 6 (Nat.le_refl _) (by decide) (by decide) (by decide) ?_
  intro T h1 r gr X E1 B
  have hra : r ≠ a := Ne.symm (ne_new (Exa.lt E) gr)
  have hrY : r ≠ Y := Ne.symm (ne_new A_Y.lt gr)
  have hrP : r ≠ P := Ne.symm (ne_new A_P.lt gr)
  have hr0 : h0.size ≤ r := by omega
  have hrn : n0 ≤ r := nn_new hn (Exa.lt E) gr
  have E := Exa.ext E1 E
  have F_p := Fld.ext E1 F_p
  have F_y := Fld.ext E1 F_y
  have A_P := A_P.ext E1
  have A_Y := A_Y.ext E1
  have K := K.ext E1
  replace B : Arl Z h1 r .int (([0, 0, 0, 0, 0, 0] : List Int32).map Value.int) := B
  refine Wk.astoreN X d39_36 37 rfl #[.val (.ref a), .val (.int q), .val (.int (3 : Int32)), .val (.ref r), .unset, .unset] rfl rfl ?_
  refine Wk.iconst X d39_37 38 rfl (0 : Int32) rfl ?_
  refine Wk.istore X d39_38 40 rfl #[.val (.ref a), .val (.int q), .val (.int (3 : Int32)), .val (.ref r), .val (.int (0 : Int32)), .unset] rfl ?_
  refine Wk.aloadN X d39_40 41 rfl rfl rfl ?_
  refine Wk.iloadN X d39_41 42 rfl rfl ?_
  refine Wk.iconst X d39_42 43 rfl (0 : Int32) rfl ?_
  refine Wk.callP X (t70 hw) (t72 hw) (t71 hw) (t2 hw) (t73 hw) (t19 hw) rfl E (con_field0 l Z a0 hw [] h1 n0 a P ps q qN hq hq4 hps (0) hf F_p A_P) (by decide) pd0 [(.int q), (.int (0 : Int32))] [] rfl rfl rfl rfl 0 (Nat.le_of_eq rfl) (by decide) (by decide) (by decide) (by decide) 1 6 rfl rfl d39_43 46 rfl ?_
  rintro _ T _ X ⟨rfl, rfl⟩
  show Wk p.tables e below _ (T.setTop (mkF m 46 #[.val (.ref a), .val (.int q), .val (.int (3 : Int32)), .val (.ref r), .val (.int (0 : Int32)), .unset] [(.int (0 : Int32))]))
  refine Wk.istore X d39_46 48 rfl #[.val (.ref a), .val (.int q), .val (.int (3 : Int32)), .val (.ref r), .val (.int (0 : Int32)), .val (.int (0 : Int32))] rfl ?_
  refine Wk.iload X d39_48 50 rfl rfl ?_
  refine Wk.iconst X d39_50 51 rfl (-1 : Int32) rfl ?_
  refine Wk.icmpF X d39_51 54 rfl (show ¬ (0 : Int32) = (-1 : Int32) from (by decide)) ?_
  refine Wk.aloadN X d39_54 55 rfl rfl rfl ?_
  refine Wk.iload X d39_55 57 rfl rfl ?_
  refine Wk.iinc X d39_57 60 rfl #[.val (.ref a), .val (.int q), .val (.int (3 : Int32)), .val (.ref r), .val (.int (1 : Int32)), .val (.int (0 : Int32))] rfl rfl ?_
  refine Wk.aloadN X d39_60 61 rfl rfl rfl ?_
  refine Wk.getfield X (t12 hw) Via.refl F_y d39_61 64 rfl ?_
  intro T X
  refine Wk.iload X d39_64 66 rfl rfl ?_
  refine Wk.iconst X d39_66 67 rfl (3 : Int32) rfl ?_
  refine Wk.imul X d39_67 68 rfl ?_
  refine Wk.topI (0 : Int32) (by decide) ?_
  refine Wk.iconst X d39_68 69 rfl (0 : Int32) rfl ?_
  refine Wk.iadd X d39_69 70 rfl ?_
  refine Wk.topI (0 : Int32) (by decide) ?_
  refine Wk.iaload X A_Y 0 rfl (own_at hy0) d39_70 71 rfl ?_
  refine Wk.iastore X B hrn 0 rfl (Nat.le_of_ble_eq_true rfl) d39_71 72 rfl ?_
  intro T h2 X W2
  have B := B.set W2
  replace B : Arl Z h2 r .int (([y0, 0, 0, 0, 0, 0] : List Int32).map Value.int) := B
  have E := Exa.wr W2 E
  have F_p := Fld.other W2 F_p (Or.inl (Ne.symm hra))
  have F_y := Fld.other W2 F_y (Or.inl (Ne.symm hra))
  have A_P := A_P.other W2 (Ne.symm hrP)
  have A_Y := A_Y.other W2 (Ne.symm hrY)
  have K := K.wr W2 (Or.inr hr0)
  refine Wk.aloadN X d39_72 73 rfl rfl rfl ?_
  refine Wk.iload X d39_73 75 rfl rfl ?_
  refine Wk.iinc X d39_75 78 rfl #[.val (.ref a), .val (.int q), .val (.int (3 : Int32)), .val (.ref r), .val (.int (2 : Int32)), .val (.int (0 : Int32))] rfl rfl ?_
  refine Wk.aloadN X d39_78 79 rfl rfl rfl ?_
  refine Wk.getfield X (t12 hw) Via.refl F_y d39_79 82 rfl ?_
  intro T X
  refine Wk.iload X d39_82 84 rfl rfl ?_
  refine Wk.iconst X d39_84 85 rfl (3 : Int32) rfl ?_
  refine Wk.imul X d39_85 86 rfl ?_
  refine Wk.topI (0 : Int32) (by decide) ?_
  refine Wk.iconst X d39_86 87 rfl (1 : Int32) rfl ?_
  refine Wk.iadd X d39_87 88 rfl ?_
  refine Wk.topI (1 : Int32) (by decide) ?_
  refine Wk.iaload X A_Y 1 rfl (own_at hz0) d39_88 89 rfl ?_
  refine Wk.iastore X B hrn 1 rfl (Nat.le_of_ble_eq_true rfl) d39_89 90 rfl ?_
  intro T h3 X W3
  have B := B.set W3
  replace B : Arl Z h3 r .int (([y0, z0, 0, 0, 0, 0] : List Int32).map Value.int) := B
  have E := Exa.wr W3 E
  have F_p := Fld.other W3 F_p (Or.inl (Ne.symm hra))
  have F_y := Fld.other W3 F_y (Or.inl (Ne.symm hra))
  have A_P := A_P.other W3 (Ne.symm hrP)
  have A_Y := A_Y.other W3 (Ne.symm hrY)
  have K := K.wr W3 (Or.inr hr0)
  refine Wk.aloadN X d39_90 91 rfl rfl rfl ?_
  refine Wk.getfield X (t12 hw) Via.refl F_y d39_91 94 rfl ?_
  intro T X
  refine Wk.iload X d39_94 96 rfl rfl ?_
  refine Wk.iconst X d39_96 97 rfl (3 : Int32) rfl ?_
  refine Wk.imul X d39_97 98 rfl ?_
  refine Wk.topI (0 : Int32) (by decide) ?_
  refine Wk.iconst X d39_98 99 rfl (2 : Int32) rfl ?_
  refine Wk.iadd X d39_99 100 rfl ?_
  refine Wk.topI (2 : Int32) (by decide) ?_
  refine Wk.iaload X A_Y 2 rfl (own_at hn0) d39_100 101 rfl ?_
  refine Wk.istore X d39_101 103 rfl #[.val (.ref a), .val (.int q), .val (.int (3 : Int32)), .val (.ref r), .val (.int (2 : Int32)), .val (.int (1 : Int32))] rfl ?_
  refine Wk.goto X d39_103 48 (by decide) ?_
  refine Wk.iload X d39_48 50 rfl rfl ?_
  refine Wk.iconst X d39_50 51 rfl (-1 : Int32) rfl ?_
  refine Wk.icmpF X d39_51 54 rfl (show ¬ (1 : Int32) = (-1 : Int32) from (by decide)) ?_
  refine Wk.aloadN X d39_54 55 rfl rfl rfl ?_
  refine Wk.iload X d39_55 57 rfl rfl ?_
  refine Wk.iinc X d39_57 60 rfl #[.val (.ref a), .val (.int q), .val (.int (3 : Int32)), .val (.ref r), .val (.int (3 : Int32)), .val (.int (1 : Int32))] rfl rfl ?_
  refine Wk.aloadN X d39_60 61 rfl rfl rfl ?_
  refine Wk.getfield X (t12 hw) Via.refl F_y d39_61 64 rfl ?_
  intro T X
  refine Wk.iload X d39_64 66 rfl rfl ?_
  refine Wk.iconst X d39_66 67 rfl (3 : Int32) rfl ?_
  refine Wk.imul X d39_67 68 rfl ?_
  refine Wk.topI (3 : Int32) (by decide) ?_
  refine Wk.iconst X d39_68 69 rfl (0 : Int32) rfl ?_
  refine Wk.iadd X d39_69 70 rfl ?_
  refine Wk.topI (3 : Int32) (by decide) ?_
  refine Wk.iaload X A_Y 3 rfl (own_at hy1) d39_70 71 rfl ?_
  refine Wk.iastore X B hrn 2 rfl (Nat.le_of_ble_eq_true rfl) d39_71 72 rfl ?_
  intro T h4 X W4
  have B := B.set W4
  replace B : Arl Z h4 r .int (([y0, z0, y1, 0, 0, 0] : List Int32).map Value.int) := B
  have E := Exa.wr W4 E
  have F_p := Fld.other W4 F_p (Or.inl (Ne.symm hra))
  have F_y := Fld.other W4 F_y (Or.inl (Ne.symm hra))
  have A_P := A_P.other W4 (Ne.symm hrP)
  have A_Y := A_Y.other W4 (Ne.symm hrY)
  have K := K.wr W4 (Or.inr hr0)
  refine Wk.aloadN X d39_72 73 rfl rfl rfl ?_
  refine Wk.iload X d39_73 75 rfl rfl ?_
  refine Wk.iinc X d39_75 78 rfl #[.val (.ref a), .val (.int q), .val (.int (3 : Int32)), .val (.ref r), .val (.int (4 : Int32)), .val (.int (1 : Int32))] rfl rfl ?_
  refine Wk.aloadN X d39_78 79 rfl rfl rfl ?_
  refine Wk.getfield X (t12 hw) Via.refl F_y d39_79 82 rfl ?_
  intro T X
  refine Wk.iload X d39_82 84 rfl rfl ?_
  refine Wk.iconst X d39_84 85 rfl (3 : Int32) rfl ?_
  refine Wk.imul X d39_85 86 rfl ?_
  refine Wk.topI (3 : Int32) (by decide) ?_
  refine Wk.iconst X d39_86 87 rfl (1 : Int32) rfl ?_
  refine Wk.iadd X d39_87 88 rfl ?_
  refine Wk.topI (4 : Int32) (by decide) ?_
  refine Wk.iaload X A_Y 4 rfl (own_at hz1) d39_88 89 rfl ?_
  refine Wk.iastore X B hrn 3 rfl (Nat.le_of_ble_eq_true rfl) d39_89 90 rfl ?_
  intro T h5 X W5
  have B := B.set W5
  replace B : Arl Z h5 r .int (([y0, z0, y1, z1, 0, 0] : List Int32).map Value.int) := B
  have E := Exa.wr W5 E
  have F_p := Fld.other W5 F_p (Or.inl (Ne.symm hra))
  have F_y := Fld.other W5 F_y (Or.inl (Ne.symm hra))
  have A_P := A_P.other W5 (Ne.symm hrP)
  have A_Y := A_Y.other W5 (Ne.symm hrY)
  have K := K.wr W5 (Or.inr hr0)
  refine Wk.aloadN X d39_90 91 rfl rfl rfl ?_
  refine Wk.getfield X (t12 hw) Via.refl F_y d39_91 94 rfl ?_
  intro T X
  refine Wk.iload X d39_94 96 rfl rfl ?_
  refine Wk.iconst X d39_96 97 rfl (3 : Int32) rfl ?_
  refine Wk.imul X d39_97 98 rfl ?_
  refine Wk.topI (3 : Int32) (by decide) ?_
  refine Wk.iconst X d39_98 99 rfl (2 : Int32) rfl ?_
  refine Wk.iadd X d39_99 100 rfl ?_
  refine Wk.topI (5 : Int32) (by decide) ?_
  refine Wk.iaload X A_Y 5 rfl (own_at hn1) d39_100 101 rfl ?_
  refine Wk.istore X d39_101 103 rfl #[.val (.ref a), .val (.int q), .val (.int (3 : Int32)), .val (.ref r), .val (.int (4 : Int32)), .val (.int (2 : Int32))] rfl ?_
  refine Wk.goto X d39_103 48 (by decide) ?_
  refine Wk.iload X d39_48 50 rfl rfl ?_
  refine Wk.iconst X d39_50 51 rfl (-1 : Int32) rfl ?_
  refine Wk.icmpF X d39_51 54 rfl (show ¬ (2 : Int32) = (-1 : Int32) from (by decide)) ?_
  refine Wk.aloadN X d39_54 55 rfl rfl rfl ?_
  refine Wk.iload X d39_55 57 rfl rfl ?_
  refine Wk.iinc X d39_57 60 rfl #[.val (.ref a), .val (.int q), .val (.int (3 : Int32)), .val (.ref r), .val (.int (5 : Int32)), .val (.int (2 : Int32))] rfl rfl ?_
  refine Wk.aloadN X d39_60 61 rfl rfl rfl ?_
  refine Wk.getfield X (t12 hw) Via.refl F_y d39_61 64 rfl ?_
  intro T X
  refine Wk.iload X d39_64 66 rfl rfl ?_
  refine Wk.iconst X d39_66 67 rfl (3 : Int32) rfl ?_
  refine Wk.imul X d39_67 68 rfl ?_
  refine Wk.topI (6 : Int32) (by decide) ?_
  refine Wk.iconst X d39_68 69 rfl (0 : Int32) rfl ?_
  refine Wk.iadd X d39_69 70 rfl ?_
  refine Wk.topI (6 : Int32) (by decide) ?_
  refine Wk.iaload X A_Y 6 rfl (own_at hy2) d39_70 71 rfl ?_
  refine Wk.iastore X B hrn 4 rfl (Nat.le_of_ble_eq_true rfl) d39_71 72 rfl ?_
  intro T h6 X W6
  have B := B.set W6
  replace B : Arl Z h6 r .int (([y0, z0, y1, z1, y2, 0] : List Int32).map Value.int) := B
  have E := Exa.wr W6 E
  have F_p := Fld.other W6 F_p (Or.inl (Ne.symm hra))
  have F_y := Fld.other W6 F_y (Or.inl (Ne.symm hra))
  have A_P := A_P.other W6 (Ne.symm hrP)
  have A_Y := A_Y.other W6 (Ne.symm hrY)
  have K := K.wr W6 (Or.inr hr0)
  refine Wk.aloadN X d39_72 73 rfl rfl rfl ?_
  refine Wk.iload X d39_73 75 rfl rfl ?_
  refine Wk.iinc X d39_75 78 rfl #[.val (.ref a), .val (.int q), .val (.int (3 : Int32)), .val (.ref r), .val (.int (6 : Int32)), .val (.int (2 : Int32))] rfl rfl ?_
  refine Wk.aloadN X d39_78 79 rfl rfl rfl ?_
  refine Wk.getfield X (t12 hw) Via.refl F_y d39_79 82 rfl ?_
  intro T X
  refine Wk.iload X d39_82 84 rfl rfl ?_
  refine Wk.iconst X d39_84 85 rfl (3 : Int32) rfl ?_
  refine Wk.imul X d39_85 86 rfl ?_
  refine Wk.topI (6 : Int32) (by decide) ?_
  refine Wk.iconst X d39_86 87 rfl (1 : Int32) rfl ?_
  refine Wk.iadd X d39_87 88 rfl ?_
  refine Wk.topI (7 : Int32) (by decide) ?_
  refine Wk.iaload X A_Y 7 rfl (own_at hz2) d39_88 89 rfl ?_
  refine Wk.iastore X B hrn 5 rfl (Nat.le_of_ble_eq_true rfl) d39_89 90 rfl ?_
  intro T h7 X W7
  have B := B.set W7
  replace B : Arl Z h7 r .int (([y0, z0, y1, z1, y2, z2] : List Int32).map Value.int) := B
  have E := Exa.wr W7 E
  have F_p := Fld.other W7 F_p (Or.inl (Ne.symm hra))
  have F_y := Fld.other W7 F_y (Or.inl (Ne.symm hra))
  have A_P := A_P.other W7 (Ne.symm hrP)
  have A_Y := A_Y.other W7 (Ne.symm hrY)
  have K := K.wr W7 (Or.inr hr0)
  refine Wk.aloadN X d39_90 91 rfl rfl rfl ?_
  refine Wk.getfield X (t12 hw) Via.refl F_y d39_91 94 rfl ?_
  intro T X
  refine Wk.iload X d39_94 96 rfl rfl ?_
  refine Wk.iconst X d39_96 97 rfl (3 : Int32) rfl ?_
  refine Wk.imul X d39_97 98 rfl ?_
  refine Wk.topI (6 : Int32) (by decide) ?_
  refine Wk.iconst X d39_98 99 rfl (2 : Int32) rfl ?_
  refine Wk.iadd X d39_99 100 rfl ?_
  refine Wk.topI (8 : Int32) (by decide) ?_
  refine Wk.iaload X A_Y 8 rfl (own_at hn2) d39_100 101 rfl ?_
  refine Wk.istore X d39_101 103 rfl #[.val (.ref a), .val (.int q), .val (.int (3 : Int32)), .val (.ref r), .val (.int (6 : Int32)), .val (.int (-1 : Int32))] rfl ?_
  refine Wk.goto X d39_103 48 (by decide) ?_
  refine Wk.iload X d39_48 50 rfl rfl ?_
  refine Wk.iconst X d39_50 51 rfl (-1 : Int32) rfl ?_
  refine Wk.icmpT X d39_51 106 (by decide) (show (-1 : Int32) = (-1 : Int32) from (by decide)) ?_
  refine Wk.aloadN X d39_106 107 rfl rfl rfl ?_
  exact Wk.areturn X d39_107 (by decide) (by decide) rfl rfl rfl ⟨r, rfl, hr0, K, B⟩
set_option maxRecDepth 65536 in
set_option maxHeartbeats 40000000 in
theorem con_yah_01 (l : Launch) (Z : State) (a0 : Array Value) (hw : ∀ d ∈ tables_1, d.before a0 Z = true) (ws : List Jvm.Cond) (h0 : Heap) (n0 : Nat) (a P Y : Addr) (pk yc : Int32) (ps ys : List Int32) (q : Int32) (qN : Nat) (hq : q.toInt = qN) (hq4 : qN < 4) (hps : 6 * qN + 5 < ps.length) (hf : ps[6 * qN + 0]? = some (0 : Int32)) (y0 z0 : Int32) (hy0 : ys[0]? = some y0) (hz0 : ys[1]? = some z0) (hn0 : ys[2]? = some (1 : Int32)) (y1 z1 : Int32) (hy1 : ys[3]? = some y1) (hz1 : ys[4]? = some z1) (hn1 : ys[5]? = some (-1 : Int32)) (S : HS Z h0 n0 a P Y pk yc ps ys) :
    Con l (⟨"com/example/vestline/vestline/HoursHistories", "yearsAndHours", "(I)[I"⟩ : MethodName) prog_12_method_11_code 6 (some (.array .int)) ({ frames := 1, cells := 1, slots := 6, locals := 14 } : Room) ws Z #[(.ref a), (.int q)] h0 n0 (fun v h => ∃ r, v = some (.ref r) ∧ h0.size ≤ r ∧ Keep h0 h [] ∧ Arl Z h r .int (([y0, z0, y1, z1] : List Int32).map Value.int)) := by
  refine Con.of (plainFor_of_name pn1) ?_
  intro p e s m below meth c T X nm
  rw [show entryFrame m #[(.ref a), (.int q)] 6 = mkF m 0 #[.val (.ref a), .val (.int q), .unset, .unset, .unset, .unset] [] from by (first | (simp [entryFrame, mkF, argsToLocals, Value.category]; done) | rfl)]
  obtain ⟨⟨E, N, hn⟩, ⟨F_p, F_k, F_y, F_c⟩, ⟨A_P, A_Y⟩, ⟨nP, nY⟩, hPY, hPa, hYa⟩ := S
  have K := Keep.refl h0 []
  refine Wk.iconst X d39_0 1 rfl (0 : Int32) rfl ?_
  refine Wk.istoreN X d39_1 2 rfl #[.val (.ref a), .val (.int q), .val (.int (0 : Int32)), .unset, .unset, .unset] rfl ?_
  refine Wk.aloadN X d39_2 3 rfl rfl rfl ?_
  refine Wk.iloadN X d39_3 4 rfl rfl ?_
  refine Wk.iconst X d39_4 5 rfl (0 : Int32) rfl ?_
  refine Wk.callP X (t70 hw) (t72 hw) (t71 hw) (t2 hw) (t73 hw) (t19 hw) rfl E (con_field0 l Z a0 hw [] h0 n0 a P ps q qN hq hq4 hps (0) hf F_p A_P) (by decide) pd0 [(.int q), (.int (0 : Int32))] [] rfl rfl rfl rfl 0 (Nat.le_of_eq rfl) (by decide) (by decide) (by decide) (by decide) 0 0 rfl rfl d39_5 8 rfl ?_
  rintro _ T _ X ⟨rfl, rfl⟩
  show Wk p.tables e below _ (T.setTop (mkF m 8 #[.val (.ref a), .val (.int q), .val (.int (0 : Int32)), .unset, .unset, .unset] [(.int (0 : Int32))]))
  refine Wk.istoreN X d39_8 9 rfl #[.val (.ref a), .val (.int q), .val (.int (0 : Int32)), .val (.int (0 : Int32)), .unset, .unset] rfl ?_
  refine Wk.iloadN X d39_9 10 rfl rfl ?_
  refine Wk.iconst X d39_10 11 rfl (-1 : Int32) rfl ?_
  refine Wk.icmpF X d39_11 14 rfl (show ¬ (0 : Int32) = (-1 : Int32) from (by decide)) ?_
  refine Wk.iinc X d39_14 17 rfl #[.val (.ref a), .val (.int q), .val (.int (1 : Int32)), .val (.int (0 : Int32)), .unset, .unset] rfl rfl ?_
  refine Wk.aloadN X d39_17 18 rfl rfl rfl ?_
  refine Wk.getfield X (t12 hw) Via.refl F_y d39_18 21 rfl ?_
  intro T X
  refine Wk.iloadN X d39_21 22 rfl rfl ?_
  refine Wk.iconst X d39_22 23 rfl (3 : Int32) rfl ?_
  refine Wk.imul X d39_23 24 rfl ?_
  refine Wk.topI (0 : Int32) (by decide) ?_
  refine Wk.iconst X d39_24 25 rfl (2 : Int32) rfl ?_
  refine Wk.iadd X d39_25 26 rfl ?_
  refine Wk.topI (2 : Int32) (by decide) ?_
  refine Wk.iaload X A_Y 2 rfl (own_at hn0) d39_26 27 rfl ?_
  refine Wk.istoreN X d39_27 28 rfl #[.val (.ref a), .val (.int q), .val (.int (1 : Int32)), .val (.int (1 : Int32)), .unset, .unset] rfl ?_
  refine Wk.goto X d39_28 9 (by decide) ?_
  refine Wk.iloadN X d39_9 10 rfl rfl ?_
  refine Wk.iconst X d39_10 11 rfl (-1 : Int32) rfl ?_
  refine Wk.icmpF X d39_11 14 rfl (show ¬ (1 : Int32) = (-1 : Int32) from (by decide)) ?_
  refine Wk.iinc X d39_14 17 rfl #[.val (.ref a), .val (.int q), .val (.int (2 : Int32)), .val (.int (1 : Int32)), .unset, .unset] rfl rfl ?_
  refine Wk.aloadN X d39_17 18 rfl rfl rfl ?_
  refine Wk.getfield X (t12 hw) Via.refl F_y d39_18 21 rfl ?_
  intro T X
  refine Wk.iloadN X d39_21 22 rfl rfl ?_
  refine Wk.iconst X d39_22 23 rfl (3 : Int32) rfl ?_
  refine Wk.imul X d39_23 24 rfl ?_
  refine Wk.topI (3 : Int32) (by decide) ?_
  refine Wk.iconst X d39_24 25 rfl (2 : Int32) rfl ?_
  refine Wk.iadd X d39_25 26 rfl ?_
  refine Wk.topI (5 : Int32) (by decide) ?_
  refine Wk.iaload X A_Y 5 rfl (own_at hn1) d39_26 27 rfl ?_
  refine Wk.istoreN X d39_27 28 rfl #[.val (.ref a), .val (.int q), .val (.int (2 : Int32)), .val (.int (-1 : Int32)), .unset, .unset] rfl ?_
  refine Wk.goto X d39_28 9 (by decide) ?_
  refine Wk.iloadN X d39_9 10 rfl rfl ?_
  refine Wk.iconst X d39_10 11 rfl (-1 : Int32) rfl ?_
  refine Wk.icmpT X d39_11 31 (by decide) (show (-1 : Int32) = (-1 : Int32) from (by decide)) ?_
  refine Wk.iconst X d39_31 32 rfl (2 : Int32) rfl ?_
  refine Wk.iloadN X d39_32 33 rfl rfl ?_
  refine Wk.imul X d39_33 34 rfl ?_
  refine Wk.topI (4 : Int32) (by decide) ?_
  refine Wk.newarray (aty := .int) X (t9 hw) d39_34 36 rfl 4 rfl 4 (Nat.le_refl _) (by decide) (by decide) (by decide) ?_
  intro T h1 r gr X E1 B
  have hra : r ≠ a := Ne.symm (ne_new (Exa.lt E) gr)
  have hrY : r ≠ Y := Ne.symm (ne_new A_Y.lt gr)
  have hrP : r ≠ P := Ne.symm (ne_new A_P.lt gr)
  have hr0 : h0.size ≤ r := by omega
  have hrn : n0 ≤ r := nn_new hn (Exa.lt E) gr
  have E := Exa.ext E1 E
  have F_p := Fld.ext E1 F_p
  have F_y := Fld.ext E1 F_y
  have A_P := A_P.ext E1
  have A_Y := A_Y.ext E1
  have K := K.ext E1
  replace B : Arl Z h1 r .int (([0, 0, 0, 0] : List Int32).map Value.int) := B
  refine Wk.astoreN X d39_36 37 rfl #[.val (.ref a), .val (.int q), .val (.int (2 : Int32)), .val (.ref r), .unset, .unset] rfl rfl ?_
  refine Wk.iconst X d39_37 38 rfl (0 : Int32) rfl ?_
  refine Wk.istore X d39_38 40 rfl #[.val (.ref a), .val (.int q), .val (.int (2 : Int32)), .val (.ref r), .val (.int (0 : Int32)), .unset] rfl ?_
  refine Wk.aloadN X d39_40 41 rfl rfl rfl ?_
  refine Wk.iloadN X d39_41 42 rfl rfl ?_
  refine Wk.iconst X d39_42 43 rfl (0 : Int32) rfl ?_
  refine Wk.callP X (t70 hw) (t72 hw) (t71 hw) (t2 hw) (t73 hw) (t19 hw) rfl E (con_field0 l Z a0 hw [] h1 n0 a P ps q qN hq hq4 hps (0) hf F_p A_P) (by decide) pd0 [(.int q), (.int (0 : Int32))] [] rfl rfl rfl rfl 0 (Nat.le_of_eq rfl) (by decide) (by decide) (by decide) (by decide) 1 4 rfl rfl d39_43 46 rfl ?_
  rintro _ T _ X ⟨rfl, rfl⟩
  show Wk p.tables e below _ (T.setTop (mkF m 46 #[.val (.ref a), .val (.int q), .val (.int (2 : Int32)), .val (.ref r), .val (.int (0 : Int32)), .unset] [(.int (0 : Int32))]))
  refine Wk.istore X d39_46 48 rfl #[.val (.ref a), .val (.int q), .val (.int (2 : Int32)), .val (.ref r), .val (.int (0 : Int32)), .val (.int (0 : Int32))] rfl ?_
  refine Wk.iload X d39_48 50 rfl rfl ?_
  refine Wk.iconst X d39_50 51 rfl (-1 : Int32) rfl ?_
  refine Wk.icmpF X d39_51 54 rfl (show ¬ (0 : Int32) = (-1 : Int32) from (by decide)) ?_
  refine Wk.aloadN X d39_54 55 rfl rfl rfl ?_
  refine Wk.iload X d39_55 57 rfl rfl ?_
  refine Wk.iinc X d39_57 60 rfl #[.val (.ref a), .val (.int q), .val (.int (2 : Int32)), .val (.ref r), .val (.int (1 : Int32)), .val (.int (0 : Int32))] rfl rfl ?_
  refine Wk.aloadN X d39_60 61 rfl rfl rfl ?_
  refine Wk.getfield X (t12 hw) Via.refl F_y d39_61 64 rfl ?_
  intro T X
  refine Wk.iload X d39_64 66 rfl rfl ?_
  refine Wk.iconst X d39_66 67 rfl (3 : Int32) rfl ?_
  refine Wk.imul X d39_67 68 rfl ?_
  refine Wk.topI (0 : Int32) (by decide) ?_
  refine Wk.iconst X d39_68 69 rfl (0 : Int32) rfl ?_
  refine Wk.iadd X d39_69 70 rfl ?_
  refine Wk.topI (0 : Int32) (by decide) ?_
  refine Wk.iaload X A_Y 0 rfl (own_at hy0) d39_70 71 rfl ?_
  refine Wk.iastore X B hrn 0 rfl (Nat.le_of_ble_eq_true rfl) d39_71 72 rfl ?_
  intro T h2 X W2
  have B := B.set W2
  replace B : Arl Z h2 r .int (([y0, 0, 0, 0] : List Int32).map Value.int) := B
  have E := Exa.wr W2 E
  have F_p := Fld.other W2 F_p (Or.inl (Ne.symm hra))
  have F_y := Fld.other W2 F_y (Or.inl (Ne.symm hra))
  have A_P := A_P.other W2 (Ne.symm hrP)
  have A_Y := A_Y.other W2 (Ne.symm hrY)
  have K := K.wr W2 (Or.inr hr0)
  refine Wk.aloadN X d39_72 73 rfl rfl rfl ?_
  refine Wk.iload X d39_73 75 rfl rfl ?_
  refine Wk.iinc X d39_75 78 rfl #[.val (.ref a), .val (.int q), .val (.int (2 : Int32)), .val (.ref r), .val (.int (2 : Int32)), .val (.int (0 : Int32))] rfl rfl ?_
  refine Wk.aloadN X d39_78 79 rfl rfl rfl ?_
  refine Wk.getfield X (t12 hw) Via.refl F_y d39_79 82 rfl ?_
  intro T X
  refine Wk.iload X d39_82 84 rfl rfl ?_
  refine Wk.iconst X d39_84 85 rfl (3 : Int32) rfl ?_
  refine Wk.imul X d39_85 86 rfl ?_
  refine Wk.topI (0 : Int32) (by decide) ?_
  refine Wk.iconst X d39_86 87 rfl (1 : Int32) rfl ?_
  refine Wk.iadd X d39_87 88 rfl ?_
  refine Wk.topI (1 : Int32) (by decide) ?_
  refine Wk.iaload X A_Y 1 rfl (own_at hz0) d39_88 89 rfl ?_
  refine Wk.iastore X B hrn 1 rfl (Nat.le_of_ble_eq_true rfl) d39_89 90 rfl ?_
  intro T h3 X W3
  have B := B.set W3
  replace B : Arl Z h3 r .int (([y0, z0, 0, 0] : List Int32).map Value.int) := B
  have E := Exa.wr W3 E
  have F_p := Fld.other W3 F_p (Or.inl (Ne.symm hra))
  have F_y := Fld.other W3 F_y (Or.inl (Ne.symm hra))
  have A_P := A_P.other W3 (Ne.symm hrP)
  have A_Y := A_Y.other W3 (Ne.symm hrY)
  have K := K.wr W3 (Or.inr hr0)
  refine Wk.aloadN X d39_90 91 rfl rfl rfl ?_
  refine Wk.getfield X (t12 hw) Via.refl F_y d39_91 94 rfl ?_
  intro T X
  refine Wk.iload X d39_94 96 rfl rfl ?_
  refine Wk.iconst X d39_96 97 rfl (3 : Int32) rfl ?_
  refine Wk.imul X d39_97 98 rfl ?_
  refine Wk.topI (0 : Int32) (by decide) ?_
  refine Wk.iconst X d39_98 99 rfl (2 : Int32) rfl ?_
  refine Wk.iadd X d39_99 100 rfl ?_
  refine Wk.topI (2 : Int32) (by decide) ?_
  refine Wk.iaload X A_Y 2 rfl (own_at hn0) d39_100 101 rfl ?_
  refine Wk.istore X d39_101 103 rfl #[.val (.ref a), .val (.int q), .val (.int (2 : Int32)), .val (.ref r), .val (.int (2 : Int32)), .val (.int (1 : Int32))] rfl ?_
  refine Wk.goto X d39_103 48 (by decide) ?_
  refine Wk.iload X d39_48 50 rfl rfl ?_
  refine Wk.iconst X d39_50 51 rfl (-1 : Int32) rfl ?_
  refine Wk.icmpF X d39_51 54 rfl (show ¬ (1 : Int32) = (-1 : Int32) from (by decide)) ?_
  refine Wk.aloadN X d39_54 55 rfl rfl rfl ?_
  refine Wk.iload X d39_55 57 rfl rfl ?_
  refine Wk.iinc X d39_57 60 rfl #[.val (.ref a), .val (.int q), .val (.int (2 : Int32)), .val (.ref r), .val (.int (3 : Int32)), .val (.int (1 : Int32))] rfl rfl ?_
  refine Wk.aloadN X d39_60 61 rfl rfl rfl ?_
  refine Wk.getfield X (t12 hw) Via.refl F_y d39_61 64 rfl ?_
  intro T X
  refine Wk.iload X d39_64 66 rfl rfl ?_
  refine Wk.iconst X d39_66 67 rfl (3 : Int32) rfl ?_
  refine Wk.imul X d39_67 68 rfl ?_
  refine Wk.topI (3 : Int32) (by decide) ?_
  refine Wk.iconst X d39_68 69 rfl (0 : Int32) rfl ?_
  refine Wk.iadd X d39_69 70 rfl ?_
  refine Wk.topI (3 : Int32) (by decide) ?_
  refine Wk.iaload X A_Y 3 rfl (own_at hy1) d39_70 71 rfl ?_
  refine Wk.iastore X B hrn 2 rfl (Nat.le_of_ble_eq_true rfl) d39_71 72 rfl ?_
  intro T h4 X W4
  have B := B.set W4
  replace B : Arl Z h4 r .int (([y0, z0, y1, 0] : List Int32).map Value.int) := B
  have E := Exa.wr W4 E
  have F_p := Fld.other W4 F_p (Or.inl (Ne.symm hra))
  have F_y := Fld.other W4 F_y (Or.inl (Ne.symm hra))
  have A_P := A_P.other W4 (Ne.symm hrP)
  have A_Y := A_Y.other W4 (Ne.symm hrY)
  have K := K.wr W4 (Or.inr hr0)
  refine Wk.aloadN X d39_72 73 rfl rfl rfl ?_
  refine Wk.iload X d39_73 75 rfl rfl ?_
  refine Wk.iinc X d39_75 78 rfl #[.val (.ref a), .val (.int q), .val (.int (2 : Int32)), .val (.ref r), .val (.int (4 : Int32)), .val (.int (1 : Int32))] rfl rfl ?_
  refine Wk.aloadN X d39_78 79 rfl rfl rfl ?_
  refine Wk.getfield X (t12 hw) Via.refl F_y d39_79 82 rfl ?_
  intro T X
  refine Wk.iload X d39_82 84 rfl rfl ?_
  refine Wk.iconst X d39_84 85 rfl (3 : Int32) rfl ?_
  refine Wk.imul X d39_85 86 rfl ?_
  refine Wk.topI (3 : Int32) (by decide) ?_
  refine Wk.iconst X d39_86 87 rfl (1 : Int32) rfl ?_
  refine Wk.iadd X d39_87 88 rfl ?_
  refine Wk.topI (4 : Int32) (by decide) ?_
  refine Wk.iaload X A_Y 4 rfl (own_at hz1) d39_88 89 rfl ?_
  refine Wk.iastore X B hrn 3 rfl (Nat.le_of_ble_eq_true rfl) d39_89 90 rfl ?_
  intro T h5 X W5
  have B := B.set W5
  replace B : Arl Z h5 r .int (([y0, z0, y1, z1] : List Int32).map Value.int) := B
  have E := Exa.wr W5 E
  have F_p := Fld.other W5 F_p (Or.inl (Ne.symm hra))
  have F_y := Fld.other W5 F_y (Or.inl (Ne.symm hra))
  have A_P := A_P.other W5 (Ne.symm hrP)
  have A_Y := A_Y.other W5 (Ne.symm hrY)
  have K := K.wr W5 (Or.inr hr0)
  refine Wk.aloadN X d39_90 91 rfl rfl rfl ?_
  refine Wk.getfield X (t12 hw) Via.refl F_y d39_91 94 rfl ?_
  intro T X
  refine Wk.iload X d39_94 96 rfl rfl ?_
  refine Wk.iconst X d39_96 97 rfl (3 : Int32) rfl ?_
  refine Wk.imul X d39_97 98 rfl ?_
  refine Wk.topI (3 : Int32) (by decide) ?_
  refine Wk.iconst X d39_98 99 rfl (2 : Int32) rfl ?_
  refine Wk.iadd X d39_99 100 rfl ?_
  refine Wk.topI (5 : Int32) (by decide) ?_
  refine Wk.iaload X A_Y 5 rfl (own_at hn1) d39_100 101 rfl ?_
  refine Wk.istore X d39_101 103 rfl #[.val (.ref a), .val (.int q), .val (.int (2 : Int32)), .val (.ref r), .val (.int (4 : Int32)), .val (.int (-1 : Int32))] rfl ?_
  refine Wk.goto X d39_103 48 (by decide) ?_
  refine Wk.iload X d39_48 50 rfl rfl ?_
  refine Wk.iconst X d39_50 51 rfl (-1 : Int32) rfl ?_
  refine Wk.icmpT X d39_51 106 (by decide) (show (-1 : Int32) = (-1 : Int32) from (by decide)) ?_
  refine Wk.aloadN X d39_106 107 rfl rfl rfl ?_
  exact Wk.areturn X d39_107 (by decide) (by decide) rfl rfl rfl ⟨r, rfl, hr0, K, B⟩
set_option maxRecDepth 65536 in
set_option maxHeartbeats 40000000 in
theorem con_yah_02 (l : Launch) (Z : State) (a0 : Array Value) (hw : ∀ d ∈ tables_1, d.before a0 Z = true) (ws : List Jvm.Cond) (h0 : Heap) (n0 : Nat) (a P Y : Addr) (pk yc : Int32) (ps ys : List Int32) (q : Int32) (qN : Nat) (hq : q.toInt = qN) (hq4 : qN < 4) (hps : 6 * qN + 5 < ps.length) (hf : ps[6 * qN + 0]? = some (0 : Int32)) (y0 z0 : Int32) (hy0 : ys[0]? = some y0) (hz0 : ys[1]? = some z0) (hn0 : ys[2]? = some (2 : Int32)) (y2 z2 : Int32) (hy2 : ys[6]? = some y2) (hz2 : ys[7]? = some z2) (hn2 : ys[8]? = some (-1 : Int32)) (S : HS Z h0 n0 a P Y pk yc ps ys) :
    Con l (⟨"com/example/vestline/vestline/HoursHistories", "yearsAndHours", "(I)[I"⟩ : MethodName) prog_12_method_11_code 6 (some (.array .int)) ({ frames := 1, cells := 1, slots := 6, locals := 14 } : Room) ws Z #[(.ref a), (.int q)] h0 n0 (fun v h => ∃ r, v = some (.ref r) ∧ h0.size ≤ r ∧ Keep h0 h [] ∧ Arl Z h r .int (([y0, z0, y2, z2] : List Int32).map Value.int)) := by
  refine Con.of (plainFor_of_name pn1) ?_
  intro p e s m below meth c T X nm
  rw [show entryFrame m #[(.ref a), (.int q)] 6 = mkF m 0 #[.val (.ref a), .val (.int q), .unset, .unset, .unset, .unset] [] from by (first | (simp [entryFrame, mkF, argsToLocals, Value.category]; done) | rfl)]
  obtain ⟨⟨E, N, hn⟩, ⟨F_p, F_k, F_y, F_c⟩, ⟨A_P, A_Y⟩, ⟨nP, nY⟩, hPY, hPa, hYa⟩ := S
  have K := Keep.refl h0 []
  refine Wk.iconst X d39_0 1 rfl (0 : Int32) rfl ?_
  refine Wk.istoreN X d39_1 2 rfl #[.val (.ref a), .val (.int q), .val (.int (0 : Int32)), .unset, .unset, .unset] rfl ?_
  refine Wk.aloadN X d39_2 3 rfl rfl rfl ?_
  refine Wk.iloadN X d39_3 4 rfl rfl ?_
  refine Wk.iconst X d39_4 5 rfl (0 : Int32) rfl ?_
  refine Wk.callP X (t70 hw) (t72 hw) (t71 hw) (t2 hw) (t73 hw) (t19 hw) rfl E (con_field0 l Z a0 hw [] h0 n0 a P ps q qN hq hq4 hps (0) hf F_p A_P) (by decide) pd0 [(.int q), (.int (0 : Int32))] [] rfl rfl rfl rfl 0 (Nat.le_of_eq rfl) (by decide) (by decide) (by decide) (by decide) 0 0 rfl rfl d39_5 8 rfl ?_
  rintro _ T _ X ⟨rfl, rfl⟩
  show Wk p.tables e below _ (T.setTop (mkF m 8 #[.val (.ref a), .val (.int q), .val (.int (0 : Int32)), .unset, .unset, .unset] [(.int (0 : Int32))]))
  refine Wk.istoreN X d39_8 9 rfl #[.val (.ref a), .val (.int q), .val (.int (0 : Int32)), .val (.int (0 : Int32)), .unset, .unset] rfl ?_
  refine Wk.iloadN X d39_9 10 rfl rfl ?_
  refine Wk.iconst X d39_10 11 rfl (-1 : Int32) rfl ?_
  refine Wk.icmpF X d39_11 14 rfl (show ¬ (0 : Int32) = (-1 : Int32) from (by decide)) ?_
  refine Wk.iinc X d39_14 17 rfl #[.val (.ref a), .val (.int q), .val (.int (1 : Int32)), .val (.int (0 : Int32)), .unset, .unset] rfl rfl ?_
  refine Wk.aloadN X d39_17 18 rfl rfl rfl ?_
  refine Wk.getfield X (t12 hw) Via.refl F_y d39_18 21 rfl ?_
  intro T X
  refine Wk.iloadN X d39_21 22 rfl rfl ?_
  refine Wk.iconst X d39_22 23 rfl (3 : Int32) rfl ?_
  refine Wk.imul X d39_23 24 rfl ?_
  refine Wk.topI (0 : Int32) (by decide) ?_
  refine Wk.iconst X d39_24 25 rfl (2 : Int32) rfl ?_
  refine Wk.iadd X d39_25 26 rfl ?_
  refine Wk.topI (2 : Int32) (by decide) ?_
  refine Wk.iaload X A_Y 2 rfl (own_at hn0) d39_26 27 rfl ?_
  refine Wk.istoreN X d39_27 28 rfl #[.val (.ref a), .val (.int q), .val (.int (1 : Int32)), .val (.int (2 : Int32)), .unset, .unset] rfl ?_
  refine Wk.goto X d39_28 9 (by decide) ?_
  refine Wk.iloadN X d39_9 10 rfl rfl ?_
  refine Wk.iconst X d39_10 11 rfl (-1 : Int32) rfl ?_
  refine Wk.icmpF X d39_11 14 rfl (show ¬ (2 : Int32) = (-1 : Int32) from (by decide)) ?_
  refine Wk.iinc X d39_14 17 rfl #[.val (.ref a), .val (.int q), .val (.int (2 : Int32)), .val (.int (2 : Int32)), .unset, .unset] rfl rfl ?_
  refine Wk.aloadN X d39_17 18 rfl rfl rfl ?_
  refine Wk.getfield X (t12 hw) Via.refl F_y d39_18 21 rfl ?_
  intro T X
  refine Wk.iloadN X d39_21 22 rfl rfl ?_
  refine Wk.iconst X d39_22 23 rfl (3 : Int32) rfl ?_
  refine Wk.imul X d39_23 24 rfl ?_
  refine Wk.topI (6 : Int32) (by decide) ?_
  refine Wk.iconst X d39_24 25 rfl (2 : Int32) rfl ?_
  refine Wk.iadd X d39_25 26 rfl ?_
  refine Wk.topI (8 : Int32) (by decide) ?_
  refine Wk.iaload X A_Y 8 rfl (own_at hn2) d39_26 27 rfl ?_
  refine Wk.istoreN X d39_27 28 rfl #[.val (.ref a), .val (.int q), .val (.int (2 : Int32)), .val (.int (-1 : Int32)), .unset, .unset] rfl ?_
  refine Wk.goto X d39_28 9 (by decide) ?_
  refine Wk.iloadN X d39_9 10 rfl rfl ?_
  refine Wk.iconst X d39_10 11 rfl (-1 : Int32) rfl ?_
  refine Wk.icmpT X d39_11 31 (by decide) (show (-1 : Int32) = (-1 : Int32) from (by decide)) ?_
  refine Wk.iconst X d39_31 32 rfl (2 : Int32) rfl ?_
  refine Wk.iloadN X d39_32 33 rfl rfl ?_
  refine Wk.imul X d39_33 34 rfl ?_
  refine Wk.topI (4 : Int32) (by decide) ?_
  refine Wk.newarray (aty := .int) X (t9 hw) d39_34 36 rfl 4 rfl 4 (Nat.le_refl _) (by decide) (by decide) (by decide) ?_
  intro T h1 r gr X E1 B
  have hra : r ≠ a := Ne.symm (ne_new (Exa.lt E) gr)
  have hrY : r ≠ Y := Ne.symm (ne_new A_Y.lt gr)
  have hrP : r ≠ P := Ne.symm (ne_new A_P.lt gr)
  have hr0 : h0.size ≤ r := by omega
  have hrn : n0 ≤ r := nn_new hn (Exa.lt E) gr
  have E := Exa.ext E1 E
  have F_p := Fld.ext E1 F_p
  have F_y := Fld.ext E1 F_y
  have A_P := A_P.ext E1
  have A_Y := A_Y.ext E1
  have K := K.ext E1
  replace B : Arl Z h1 r .int (([0, 0, 0, 0] : List Int32).map Value.int) := B
  refine Wk.astoreN X d39_36 37 rfl #[.val (.ref a), .val (.int q), .val (.int (2 : Int32)), .val (.ref r), .unset, .unset] rfl rfl ?_
  refine Wk.iconst X d39_37 38 rfl (0 : Int32) rfl ?_
  refine Wk.istore X d39_38 40 rfl #[.val (.ref a), .val (.int q), .val (.int (2 : Int32)), .val (.ref r), .val (.int (0 : Int32)), .unset] rfl ?_
  refine Wk.aloadN X d39_40 41 rfl rfl rfl ?_
  refine Wk.iloadN X d39_41 42 rfl rfl ?_
  refine Wk.iconst X d39_42 43 rfl (0 : Int32) rfl ?_
  refine Wk.callP X (t70 hw) (t72 hw) (t71 hw) (t2 hw) (t73 hw) (t19 hw) rfl E (con_field0 l Z a0 hw [] h1 n0 a P ps q qN hq hq4 hps (0) hf F_p A_P) (by decide) pd0 [(.int q), (.int (0 : Int32))] [] rfl rfl rfl rfl 0 (Nat.le_of_eq rfl) (by decide) (by decide) (by decide) (by decide) 1 4 rfl rfl d39_43 46 rfl ?_
  rintro _ T _ X ⟨rfl, rfl⟩
  show Wk p.tables e below _ (T.setTop (mkF m 46 #[.val (.ref a), .val (.int q), .val (.int (2 : Int32)), .val (.ref r), .val (.int (0 : Int32)), .unset] [(.int (0 : Int32))]))
  refine Wk.istore X d39_46 48 rfl #[.val (.ref a), .val (.int q), .val (.int (2 : Int32)), .val (.ref r), .val (.int (0 : Int32)), .val (.int (0 : Int32))] rfl ?_
  refine Wk.iload X d39_48 50 rfl rfl ?_
  refine Wk.iconst X d39_50 51 rfl (-1 : Int32) rfl ?_
  refine Wk.icmpF X d39_51 54 rfl (show ¬ (0 : Int32) = (-1 : Int32) from (by decide)) ?_
  refine Wk.aloadN X d39_54 55 rfl rfl rfl ?_
  refine Wk.iload X d39_55 57 rfl rfl ?_
  refine Wk.iinc X d39_57 60 rfl #[.val (.ref a), .val (.int q), .val (.int (2 : Int32)), .val (.ref r), .val (.int (1 : Int32)), .val (.int (0 : Int32))] rfl rfl ?_
  refine Wk.aloadN X d39_60 61 rfl rfl rfl ?_
  refine Wk.getfield X (t12 hw) Via.refl F_y d39_61 64 rfl ?_
  intro T X
  refine Wk.iload X d39_64 66 rfl rfl ?_
  refine Wk.iconst X d39_66 67 rfl (3 : Int32) rfl ?_
  refine Wk.imul X d39_67 68 rfl ?_
  refine Wk.topI (0 : Int32) (by decide) ?_
  refine Wk.iconst X d39_68 69 rfl (0 : Int32) rfl ?_
  refine Wk.iadd X d39_69 70 rfl ?_
  refine Wk.topI (0 : Int32) (by decide) ?_
  refine Wk.iaload X A_Y 0 rfl (own_at hy0) d39_70 71 rfl ?_
  refine Wk.iastore X B hrn 0 rfl (Nat.le_of_ble_eq_true rfl) d39_71 72 rfl ?_
  intro T h2 X W2
  have B := B.set W2
  replace B : Arl Z h2 r .int (([y0, 0, 0, 0] : List Int32).map Value.int) := B
  have E := Exa.wr W2 E
  have F_p := Fld.other W2 F_p (Or.inl (Ne.symm hra))
  have F_y := Fld.other W2 F_y (Or.inl (Ne.symm hra))
  have A_P := A_P.other W2 (Ne.symm hrP)
  have A_Y := A_Y.other W2 (Ne.symm hrY)
  have K := K.wr W2 (Or.inr hr0)
  refine Wk.aloadN X d39_72 73 rfl rfl rfl ?_
  refine Wk.iload X d39_73 75 rfl rfl ?_
  refine Wk.iinc X d39_75 78 rfl #[.val (.ref a), .val (.int q), .val (.int (2 : Int32)), .val (.ref r), .val (.int (2 : Int32)), .val (.int (0 : Int32))] rfl rfl ?_
  refine Wk.aloadN X d39_78 79 rfl rfl rfl ?_
  refine Wk.getfield X (t12 hw) Via.refl F_y d39_79 82 rfl ?_
  intro T X
  refine Wk.iload X d39_82 84 rfl rfl ?_
  refine Wk.iconst X d39_84 85 rfl (3 : Int32) rfl ?_
  refine Wk.imul X d39_85 86 rfl ?_
  refine Wk.topI (0 : Int32) (by decide) ?_
  refine Wk.iconst X d39_86 87 rfl (1 : Int32) rfl ?_
  refine Wk.iadd X d39_87 88 rfl ?_
  refine Wk.topI (1 : Int32) (by decide) ?_
  refine Wk.iaload X A_Y 1 rfl (own_at hz0) d39_88 89 rfl ?_
  refine Wk.iastore X B hrn 1 rfl (Nat.le_of_ble_eq_true rfl) d39_89 90 rfl ?_
  intro T h3 X W3
  have B := B.set W3
  replace B : Arl Z h3 r .int (([y0, z0, 0, 0] : List Int32).map Value.int) := B
  have E := Exa.wr W3 E
  have F_p := Fld.other W3 F_p (Or.inl (Ne.symm hra))
  have F_y := Fld.other W3 F_y (Or.inl (Ne.symm hra))
  have A_P := A_P.other W3 (Ne.symm hrP)
  have A_Y := A_Y.other W3 (Ne.symm hrY)
  have K := K.wr W3 (Or.inr hr0)
  refine Wk.aloadN X d39_90 91 rfl rfl rfl ?_
  refine Wk.getfield X (t12 hw) Via.refl F_y d39_91 94 rfl ?_
  intro T X
  refine Wk.iload X d39_94 96 rfl rfl ?_
  refine Wk.iconst X d39_96 97 rfl (3 : Int32) rfl ?_
  refine Wk.imul X d39_97 98 rfl ?_
  refine Wk.topI (0 : Int32) (by decide) ?_
  refine Wk.iconst X d39_98 99 rfl (2 : Int32) rfl ?_
  refine Wk.iadd X d39_99 100 rfl ?_
  refine Wk.topI (2 : Int32) (by decide) ?_
  refine Wk.iaload X A_Y 2 rfl (own_at hn0) d39_100 101 rfl ?_
  refine Wk.istore X d39_101 103 rfl #[.val (.ref a), .val (.int q), .val (.int (2 : Int32)), .val (.ref r), .val (.int (2 : Int32)), .val (.int (2 : Int32))] rfl ?_
  refine Wk.goto X d39_103 48 (by decide) ?_
  refine Wk.iload X d39_48 50 rfl rfl ?_
  refine Wk.iconst X d39_50 51 rfl (-1 : Int32) rfl ?_
  refine Wk.icmpF X d39_51 54 rfl (show ¬ (2 : Int32) = (-1 : Int32) from (by decide)) ?_
  refine Wk.aloadN X d39_54 55 rfl rfl rfl ?_
  refine Wk.iload X d39_55 57 rfl rfl ?_
  refine Wk.iinc X d39_57 60 rfl #[.val (.ref a), .val (.int q), .val (.int (2 : Int32)), .val (.ref r), .val (.int (3 : Int32)), .val (.int (2 : Int32))] rfl rfl ?_
  refine Wk.aloadN X d39_60 61 rfl rfl rfl ?_
  refine Wk.getfield X (t12 hw) Via.refl F_y d39_61 64 rfl ?_
  intro T X
  refine Wk.iload X d39_64 66 rfl rfl ?_
  refine Wk.iconst X d39_66 67 rfl (3 : Int32) rfl ?_
  refine Wk.imul X d39_67 68 rfl ?_
  refine Wk.topI (6 : Int32) (by decide) ?_
  refine Wk.iconst X d39_68 69 rfl (0 : Int32) rfl ?_
  refine Wk.iadd X d39_69 70 rfl ?_
  refine Wk.topI (6 : Int32) (by decide) ?_
  refine Wk.iaload X A_Y 6 rfl (own_at hy2) d39_70 71 rfl ?_
  refine Wk.iastore X B hrn 2 rfl (Nat.le_of_ble_eq_true rfl) d39_71 72 rfl ?_
  intro T h4 X W4
  have B := B.set W4
  replace B : Arl Z h4 r .int (([y0, z0, y2, 0] : List Int32).map Value.int) := B
  have E := Exa.wr W4 E
  have F_p := Fld.other W4 F_p (Or.inl (Ne.symm hra))
  have F_y := Fld.other W4 F_y (Or.inl (Ne.symm hra))
  have A_P := A_P.other W4 (Ne.symm hrP)
  have A_Y := A_Y.other W4 (Ne.symm hrY)
  have K := K.wr W4 (Or.inr hr0)
  refine Wk.aloadN X d39_72 73 rfl rfl rfl ?_
  refine Wk.iload X d39_73 75 rfl rfl ?_
  refine Wk.iinc X d39_75 78 rfl #[.val (.ref a), .val (.int q), .val (.int (2 : Int32)), .val (.ref r), .val (.int (4 : Int32)), .val (.int (2 : Int32))] rfl rfl ?_
  refine Wk.aloadN X d39_78 79 rfl rfl rfl ?_
  refine Wk.getfield X (t12 hw) Via.refl F_y d39_79 82 rfl ?_
  intro T X
  refine Wk.iload X d39_82 84 rfl rfl ?_
  refine Wk.iconst X d39_84 85 rfl (3 : Int32) rfl ?_
  refine Wk.imul X d39_85 86 rfl ?_
  refine Wk.topI (6 : Int32) (by decide) ?_
  refine Wk.iconst X d39_86 87 rfl (1 : Int32) rfl ?_
  refine Wk.iadd X d39_87 88 rfl ?_
  refine Wk.topI (7 : Int32) (by decide) ?_
  refine Wk.iaload X A_Y 7 rfl (own_at hz2) d39_88 89 rfl ?_
  refine Wk.iastore X B hrn 3 rfl (Nat.le_of_ble_eq_true rfl) d39_89 90 rfl ?_
  intro T h5 X W5
  have B := B.set W5
  replace B : Arl Z h5 r .int (([y0, z0, y2, z2] : List Int32).map Value.int) := B
  have E := Exa.wr W5 E
  have F_p := Fld.other W5 F_p (Or.inl (Ne.symm hra))
  have F_y := Fld.other W5 F_y (Or.inl (Ne.symm hra))
  have A_P := A_P.other W5 (Ne.symm hrP)
  have A_Y := A_Y.other W5 (Ne.symm hrY)
  have K := K.wr W5 (Or.inr hr0)
  refine Wk.aloadN X d39_90 91 rfl rfl rfl ?_
  refine Wk.getfield X (t12 hw) Via.refl F_y d39_91 94 rfl ?_
  intro T X
  refine Wk.iload X d39_94 96 rfl rfl ?_
  refine Wk.iconst X d39_96 97 rfl (3 : Int32) rfl ?_
  refine Wk.imul X d39_97 98 rfl ?_
  refine Wk.topI (6 : Int32) (by decide) ?_
  refine Wk.iconst X d39_98 99 rfl (2 : Int32) rfl ?_
  refine Wk.iadd X d39_99 100 rfl ?_
  refine Wk.topI (8 : Int32) (by decide) ?_
  refine Wk.iaload X A_Y 8 rfl (own_at hn2) d39_100 101 rfl ?_
  refine Wk.istore X d39_101 103 rfl #[.val (.ref a), .val (.int q), .val (.int (2 : Int32)), .val (.ref r), .val (.int (4 : Int32)), .val (.int (-1 : Int32))] rfl ?_
  refine Wk.goto X d39_103 48 (by decide) ?_
  refine Wk.iload X d39_48 50 rfl rfl ?_
  refine Wk.iconst X d39_50 51 rfl (-1 : Int32) rfl ?_
  refine Wk.icmpT X d39_51 106 (by decide) (show (-1 : Int32) = (-1 : Int32) from (by decide)) ?_
  refine Wk.aloadN X d39_106 107 rfl rfl rfl ?_
  exact Wk.areturn X d39_107 (by decide) (by decide) rfl rfl rfl ⟨r, rfl, hr0, K, B⟩
set_option maxRecDepth 65536 in
set_option maxHeartbeats 40000000 in
theorem con_yah_12 (l : Launch) (Z : State) (a0 : Array Value) (hw : ∀ d ∈ tables_1, d.before a0 Z = true) (ws : List Jvm.Cond) (h0 : Heap) (n0 : Nat) (a P Y : Addr) (pk yc : Int32) (ps ys : List Int32) (q : Int32) (qN : Nat) (hq : q.toInt = qN) (hq4 : qN < 4) (hps : 6 * qN + 5 < ps.length) (hf : ps[6 * qN + 0]? = some (1 : Int32)) (y1 z1 : Int32) (hy1 : ys[3]? = some y1) (hz1 : ys[4]? = some z1) (hn1 : ys[5]? = some (2 : Int32)) (y2 z2 : Int32) (hy2 : ys[6]? = some y2) (hz2 : ys[7]? = some z2) (hn2 : ys[8]? = some (-1 : Int32)) (S : HS Z h0 n0 a P Y pk yc ps ys) :
    Con l (⟨"com/example/vestline/vestline/HoursHistories", "yearsAndHours", "(I)[I"⟩ : MethodName) prog_12_method_11_code 6 (some (.array .int)) ({ frames := 1, cells := 1, slots := 6, locals := 14 } : Room) ws Z #[(.ref a), (.int q)] h0 n0 (fun v h => ∃ r, v = some (.ref r) ∧ h0.size ≤ r ∧ Keep h0 h [] ∧ Arl Z h r .int (([y1, z1, y2, z2] : List Int32).map Value.int)) := by
  refine Con.of (plainFor_of_name pn1) ?_
  intro p e s m below meth c T X nm
  rw [show entryFrame m #[(.ref a), (.int q)] 6 = mkF m 0 #[.val (.ref a), .val (.int q), .unset, .unset, .unset, .unset] [] from by (first | (simp [entryFrame, mkF, argsToLocals, Value.category]; done) | rfl)]
  obtain ⟨⟨E, N, hn⟩, ⟨F_p, F_k, F_y, F_c⟩, ⟨A_P, A_Y⟩, ⟨nP, nY⟩, hPY, hPa, hYa⟩ := S
  have K := Keep.refl h0 []
  refine Wk.iconst X d39_0 1 rfl (0 : Int32) rfl ?_
  refine Wk.istoreN X d39_1 2 rfl #[.val (.ref a), .val (.int q), .val (.int (0 : Int32)), .unset, .unset, .unset] rfl ?_
  refine Wk.aloadN X d39_2 3 rfl rfl rfl ?_
  refine Wk.iloadN X d39_3 4 rfl rfl ?_
  refine Wk.iconst X d39_4 5 rfl (0 : Int32) rfl ?_
  refine Wk.callP X (t70 hw) (t72 hw) (t71 hw) (t2 hw) (t73 hw) (t19 hw) rfl E (con_field0 l Z a0 hw [] h0 n0 a P ps q qN hq hq4 hps (1) hf F_p A_P) (by decide) pd0 [(.int q), (.int (0 : Int32))] [] rfl rfl rfl rfl 0 (Nat.le_of_eq rfl) (by decide) (by decide) (by decide) (by decide) 0 0 rfl rfl d39_5 8 rfl ?_
  rintro _ T _ X ⟨rfl, rfl⟩
  show Wk p.tables e below _ (T.setTop (mkF m 8 #[.val (.ref a), .val (.int q), .val (.int (0 : Int32)), .unset, .unset, .unset] [(.int (1 : Int32))]))
  refine Wk.istoreN X d39_8 9 rfl #[.val (.ref a), .val (.int q), .val (.int (0 : Int32)), .val (.int (1 : Int32)), .unset, .unset] rfl ?_
  refine Wk.iloadN X d39_9 10 rfl rfl ?_
  refine Wk.iconst X d39_10 11 rfl (-1 : Int32) rfl ?_
  refine Wk.icmpF X d39_11 14 rfl (show ¬ (1 : Int32) = (-1 : Int32) from (by decide)) ?_
  refine Wk.iinc X d39_14 17 rfl #[.val (.ref a), .val (.int q), .val (.int (1 : Int32)), .val (.int (1 : Int32)), .unset, .unset] rfl rfl ?_
  refine Wk.aloadN X d39_17 18 rfl rfl rfl ?_
  refine Wk.getfield X (t12 hw) Via.refl F_y d39_18 21 rfl ?_
  intro T X
  refine Wk.iloadN X d39_21 22 rfl rfl ?_
  refine Wk.iconst X d39_22 23 rfl (3 : Int32) rfl ?_
  refine Wk.imul X d39_23 24 rfl ?_
  refine Wk.topI (3 : Int32) (by decide) ?_
  refine Wk.iconst X d39_24 25 rfl (2 : Int32) rfl ?_
  refine Wk.iadd X d39_25 26 rfl ?_
  refine Wk.topI (5 : Int32) (by decide) ?_
  refine Wk.iaload X A_Y 5 rfl (own_at hn1) d39_26 27 rfl ?_
  refine Wk.istoreN X d39_27 28 rfl #[.val (.ref a), .val (.int q), .val (.int (1 : Int32)), .val (.int (2 : Int32)), .unset, .unset] rfl ?_
  refine Wk.goto X d39_28 9 (by decide) ?_
  refine Wk.iloadN X d39_9 10 rfl rfl ?_
  refine Wk.iconst X d39_10 11 rfl (-1 : Int32) rfl ?_
  refine Wk.icmpF X d39_11 14 rfl (show ¬ (2 : Int32) = (-1 : Int32) from (by decide)) ?_
  refine Wk.iinc X d39_14 17 rfl #[.val (.ref a), .val (.int q), .val (.int (2 : Int32)), .val (.int (2 : Int32)), .unset, .unset] rfl rfl ?_
  refine Wk.aloadN X d39_17 18 rfl rfl rfl ?_
  refine Wk.getfield X (t12 hw) Via.refl F_y d39_18 21 rfl ?_
  intro T X
  refine Wk.iloadN X d39_21 22 rfl rfl ?_
  refine Wk.iconst X d39_22 23 rfl (3 : Int32) rfl ?_
  refine Wk.imul X d39_23 24 rfl ?_
  refine Wk.topI (6 : Int32) (by decide) ?_
  refine Wk.iconst X d39_24 25 rfl (2 : Int32) rfl ?_
  refine Wk.iadd X d39_25 26 rfl ?_
  refine Wk.topI (8 : Int32) (by decide) ?_
  refine Wk.iaload X A_Y 8 rfl (own_at hn2) d39_26 27 rfl ?_
  refine Wk.istoreN X d39_27 28 rfl #[.val (.ref a), .val (.int q), .val (.int (2 : Int32)), .val (.int (-1 : Int32)), .unset, .unset] rfl ?_
  refine Wk.goto X d39_28 9 (by decide) ?_
  refine Wk.iloadN X d39_9 10 rfl rfl ?_
  refine Wk.iconst X d39_10 11 rfl (-1 : Int32) rfl ?_
  refine Wk.icmpT X d39_11 31 (by decide) (show (-1 : Int32) = (-1 : Int32) from (by decide)) ?_
  refine Wk.iconst X d39_31 32 rfl (2 : Int32) rfl ?_
  refine Wk.iloadN X d39_32 33 rfl rfl ?_
  refine Wk.imul X d39_33 34 rfl ?_
  refine Wk.topI (4 : Int32) (by decide) ?_
  refine Wk.newarray (aty := .int) X (t9 hw) d39_34 36 rfl 4 rfl 4 (Nat.le_refl _) (by decide) (by decide) (by decide) ?_
  intro T h1 r gr X E1 B
  have hra : r ≠ a := Ne.symm (ne_new (Exa.lt E) gr)
  have hrY : r ≠ Y := Ne.symm (ne_new A_Y.lt gr)
  have hrP : r ≠ P := Ne.symm (ne_new A_P.lt gr)
  have hr0 : h0.size ≤ r := by omega
  have hrn : n0 ≤ r := nn_new hn (Exa.lt E) gr
  have E := Exa.ext E1 E
  have F_p := Fld.ext E1 F_p
  have F_y := Fld.ext E1 F_y
  have A_P := A_P.ext E1
  have A_Y := A_Y.ext E1
  have K := K.ext E1
  replace B : Arl Z h1 r .int (([0, 0, 0, 0] : List Int32).map Value.int) := B
  refine Wk.astoreN X d39_36 37 rfl #[.val (.ref a), .val (.int q), .val (.int (2 : Int32)), .val (.ref r), .unset, .unset] rfl rfl ?_
  refine Wk.iconst X d39_37 38 rfl (0 : Int32) rfl ?_
  refine Wk.istore X d39_38 40 rfl #[.val (.ref a), .val (.int q), .val (.int (2 : Int32)), .val (.ref r), .val (.int (0 : Int32)), .unset] rfl ?_
  refine Wk.aloadN X d39_40 41 rfl rfl rfl ?_
  refine Wk.iloadN X d39_41 42 rfl rfl ?_
  refine Wk.iconst X d39_42 43 rfl (0 : Int32) rfl ?_
  refine Wk.callP X (t70 hw) (t72 hw) (t71 hw) (t2 hw) (t73 hw) (t19 hw) rfl E (con_field0 l Z a0 hw [] h1 n0 a P ps q qN hq hq4 hps (1) hf F_p A_P) (by decide) pd0 [(.int q), (.int (0 : Int32))] [] rfl rfl rfl rfl 0 (Nat.le_of_eq rfl) (by decide) (by decide) (by decide) (by decide) 1 4 rfl rfl d39_43 46 rfl ?_
  rintro _ T _ X ⟨rfl, rfl⟩
  show Wk p.tables e below _ (T.setTop (mkF m 46 #[.val (.ref a), .val (.int q), .val (.int (2 : Int32)), .val (.ref r), .val (.int (0 : Int32)), .unset] [(.int (1 : Int32))]))
  refine Wk.istore X d39_46 48 rfl #[.val (.ref a), .val (.int q), .val (.int (2 : Int32)), .val (.ref r), .val (.int (0 : Int32)), .val (.int (1 : Int32))] rfl ?_
  refine Wk.iload X d39_48 50 rfl rfl ?_
  refine Wk.iconst X d39_50 51 rfl (-1 : Int32) rfl ?_
  refine Wk.icmpF X d39_51 54 rfl (show ¬ (1 : Int32) = (-1 : Int32) from (by decide)) ?_
  refine Wk.aloadN X d39_54 55 rfl rfl rfl ?_
  refine Wk.iload X d39_55 57 rfl rfl ?_
  refine Wk.iinc X d39_57 60 rfl #[.val (.ref a), .val (.int q), .val (.int (2 : Int32)), .val (.ref r), .val (.int (1 : Int32)), .val (.int (1 : Int32))] rfl rfl ?_
  refine Wk.aloadN X d39_60 61 rfl rfl rfl ?_
  refine Wk.getfield X (t12 hw) Via.refl F_y d39_61 64 rfl ?_
  intro T X
  refine Wk.iload X d39_64 66 rfl rfl ?_
  refine Wk.iconst X d39_66 67 rfl (3 : Int32) rfl ?_
  refine Wk.imul X d39_67 68 rfl ?_
  refine Wk.topI (3 : Int32) (by decide) ?_
  refine Wk.iconst X d39_68 69 rfl (0 : Int32) rfl ?_
  refine Wk.iadd X d39_69 70 rfl ?_
  refine Wk.topI (3 : Int32) (by decide) ?_
  refine Wk.iaload X A_Y 3 rfl (own_at hy1) d39_70 71 rfl ?_
  refine Wk.iastore X B hrn 0 rfl (Nat.le_of_ble_eq_true rfl) d39_71 72 rfl ?_
  intro T h2 X W2
  have B := B.set W2
  replace B : Arl Z h2 r .int (([y1, 0, 0, 0] : List Int32).map Value.int) := B
  have E := Exa.wr W2 E
  have F_p := Fld.other W2 F_p (Or.inl (Ne.symm hra))
  have F_y := Fld.other W2 F_y (Or.inl (Ne.symm hra))
  have A_P := A_P.other W2 (Ne.symm hrP)
  have A_Y := A_Y.other W2 (Ne.symm hrY)
  have K := K.wr W2 (Or.inr hr0)
  refine Wk.aloadN X d39_72 73 rfl rfl rfl ?_
  refine Wk.iload X d39_73 75 rfl rfl ?_
  refine Wk.iinc X d39_75 78 rfl #[.val (.ref a), .val (.int q), .val (.int (2 : Int32)), .val (.ref r), .val (.int (2 : Int32)), .val (.int (1 : Int32))] rfl rfl ?_
  refine Wk.aloadN X d39_78 79 rfl rfl rfl ?_
  refine Wk.getfield X (t12 hw) Via.refl F_y d39_79 82 rfl ?_
  intro T X
  refine Wk.iload X d39_82 84 rfl rfl ?_
  refine Wk.iconst X d39_84 85 rfl (3 : Int32) rfl ?_
  refine Wk.imul X d39_85 86 rfl ?_
  refine Wk.topI (3 : Int32) (by decide) ?_
  refine Wk.iconst X d39_86 87 rfl (1 : Int32) rfl ?_
  refine Wk.iadd X d39_87 88 rfl ?_
  refine Wk.topI (4 : Int32) (by decide) ?_
  refine Wk.iaload X A_Y 4 rfl (own_at hz1) d39_88 89 rfl ?_
  refine Wk.iastore X B hrn 1 rfl (Nat.le_of_ble_eq_true rfl) d39_89 90 rfl ?_
  intro T h3 X W3
  have B := B.set W3
  replace B : Arl Z h3 r .int (([y1, z1, 0, 0] : List Int32).map Value.int) := B
  have E := Exa.wr W3 E
  have F_p := Fld.other W3 F_p (Or.inl (Ne.symm hra))
  have F_y := Fld.other W3 F_y (Or.inl (Ne.symm hra))
  have A_P := A_P.other W3 (Ne.symm hrP)
  have A_Y := A_Y.other W3 (Ne.symm hrY)
  have K := K.wr W3 (Or.inr hr0)
  refine Wk.aloadN X d39_90 91 rfl rfl rfl ?_
  refine Wk.getfield X (t12 hw) Via.refl F_y d39_91 94 rfl ?_
  intro T X
  refine Wk.iload X d39_94 96 rfl rfl ?_
  refine Wk.iconst X d39_96 97 rfl (3 : Int32) rfl ?_
  refine Wk.imul X d39_97 98 rfl ?_
  refine Wk.topI (3 : Int32) (by decide) ?_
  refine Wk.iconst X d39_98 99 rfl (2 : Int32) rfl ?_
  refine Wk.iadd X d39_99 100 rfl ?_
  refine Wk.topI (5 : Int32) (by decide) ?_
  refine Wk.iaload X A_Y 5 rfl (own_at hn1) d39_100 101 rfl ?_
  refine Wk.istore X d39_101 103 rfl #[.val (.ref a), .val (.int q), .val (.int (2 : Int32)), .val (.ref r), .val (.int (2 : Int32)), .val (.int (2 : Int32))] rfl ?_
  refine Wk.goto X d39_103 48 (by decide) ?_
  refine Wk.iload X d39_48 50 rfl rfl ?_
  refine Wk.iconst X d39_50 51 rfl (-1 : Int32) rfl ?_
  refine Wk.icmpF X d39_51 54 rfl (show ¬ (2 : Int32) = (-1 : Int32) from (by decide)) ?_
  refine Wk.aloadN X d39_54 55 rfl rfl rfl ?_
  refine Wk.iload X d39_55 57 rfl rfl ?_
  refine Wk.iinc X d39_57 60 rfl #[.val (.ref a), .val (.int q), .val (.int (2 : Int32)), .val (.ref r), .val (.int (3 : Int32)), .val (.int (2 : Int32))] rfl rfl ?_
  refine Wk.aloadN X d39_60 61 rfl rfl rfl ?_
  refine Wk.getfield X (t12 hw) Via.refl F_y d39_61 64 rfl ?_
  intro T X
  refine Wk.iload X d39_64 66 rfl rfl ?_
  refine Wk.iconst X d39_66 67 rfl (3 : Int32) rfl ?_
  refine Wk.imul X d39_67 68 rfl ?_
  refine Wk.topI (6 : Int32) (by decide) ?_
  refine Wk.iconst X d39_68 69 rfl (0 : Int32) rfl ?_
  refine Wk.iadd X d39_69 70 rfl ?_
  refine Wk.topI (6 : Int32) (by decide) ?_
  refine Wk.iaload X A_Y 6 rfl (own_at hy2) d39_70 71 rfl ?_
  refine Wk.iastore X B hrn 2 rfl (Nat.le_of_ble_eq_true rfl) d39_71 72 rfl ?_
  intro T h4 X W4
  have B := B.set W4
  replace B : Arl Z h4 r .int (([y1, z1, y2, 0] : List Int32).map Value.int) := B
  have E := Exa.wr W4 E
  have F_p := Fld.other W4 F_p (Or.inl (Ne.symm hra))
  have F_y := Fld.other W4 F_y (Or.inl (Ne.symm hra))
  have A_P := A_P.other W4 (Ne.symm hrP)
  have A_Y := A_Y.other W4 (Ne.symm hrY)
  have K := K.wr W4 (Or.inr hr0)
  refine Wk.aloadN X d39_72 73 rfl rfl rfl ?_
  refine Wk.iload X d39_73 75 rfl rfl ?_
  refine Wk.iinc X d39_75 78 rfl #[.val (.ref a), .val (.int q), .val (.int (2 : Int32)), .val (.ref r), .val (.int (4 : Int32)), .val (.int (2 : Int32))] rfl rfl ?_
  refine Wk.aloadN X d39_78 79 rfl rfl rfl ?_
  refine Wk.getfield X (t12 hw) Via.refl F_y d39_79 82 rfl ?_
  intro T X
  refine Wk.iload X d39_82 84 rfl rfl ?_
  refine Wk.iconst X d39_84 85 rfl (3 : Int32) rfl ?_
  refine Wk.imul X d39_85 86 rfl ?_
  refine Wk.topI (6 : Int32) (by decide) ?_
  refine Wk.iconst X d39_86 87 rfl (1 : Int32) rfl ?_
  refine Wk.iadd X d39_87 88 rfl ?_
  refine Wk.topI (7 : Int32) (by decide) ?_
  refine Wk.iaload X A_Y 7 rfl (own_at hz2) d39_88 89 rfl ?_
  refine Wk.iastore X B hrn 3 rfl (Nat.le_of_ble_eq_true rfl) d39_89 90 rfl ?_
  intro T h5 X W5
  have B := B.set W5
  replace B : Arl Z h5 r .int (([y1, z1, y2, z2] : List Int32).map Value.int) := B
  have E := Exa.wr W5 E
  have F_p := Fld.other W5 F_p (Or.inl (Ne.symm hra))
  have F_y := Fld.other W5 F_y (Or.inl (Ne.symm hra))
  have A_P := A_P.other W5 (Ne.symm hrP)
  have A_Y := A_Y.other W5 (Ne.symm hrY)
  have K := K.wr W5 (Or.inr hr0)
  refine Wk.aloadN X d39_90 91 rfl rfl rfl ?_
  refine Wk.getfield X (t12 hw) Via.refl F_y d39_91 94 rfl ?_
  intro T X
  refine Wk.iload X d39_94 96 rfl rfl ?_
  refine Wk.iconst X d39_96 97 rfl (3 : Int32) rfl ?_
  refine Wk.imul X d39_97 98 rfl ?_
  refine Wk.topI (6 : Int32) (by decide) ?_
  refine Wk.iconst X d39_98 99 rfl (2 : Int32) rfl ?_
  refine Wk.iadd X d39_99 100 rfl ?_
  refine Wk.topI (8 : Int32) (by decide) ?_
  refine Wk.iaload X A_Y 8 rfl (own_at hn2) d39_100 101 rfl ?_
  refine Wk.istore X d39_101 103 rfl #[.val (.ref a), .val (.int q), .val (.int (2 : Int32)), .val (.ref r), .val (.int (4 : Int32)), .val (.int (-1 : Int32))] rfl ?_
  refine Wk.goto X d39_103 48 (by decide) ?_
  refine Wk.iload X d39_48 50 rfl rfl ?_
  refine Wk.iconst X d39_50 51 rfl (-1 : Int32) rfl ?_
  refine Wk.icmpT X d39_51 106 (by decide) (show (-1 : Int32) = (-1 : Int32) from (by decide)) ?_
  refine Wk.aloadN X d39_106 107 rfl rfl rfl ?_
  exact Wk.areturn X d39_107 (by decide) (by decide) rfl rfl rfl ⟨r, rfl, hr0, K, B⟩
set_option maxRecDepth 65536 in
set_option maxHeartbeats 40000000 in
theorem con_yah_0 (l : Launch) (Z : State) (a0 : Array Value) (hw : ∀ d ∈ tables_1, d.before a0 Z = true) (ws : List Jvm.Cond) (h0 : Heap) (n0 : Nat) (a P Y : Addr) (pk yc : Int32) (ps ys : List Int32) (q : Int32) (qN : Nat) (hq : q.toInt = qN) (hq4 : qN < 4) (hps : 6 * qN + 5 < ps.length) (hf : ps[6 * qN + 0]? = some (0 : Int32)) (y0 z0 : Int32) (hy0 : ys[0]? = some y0) (hz0 : ys[1]? = some z0) (hn0 : ys[2]? = some (-1 : Int32)) (S : HS Z h0 n0 a P Y pk yc ps ys) :
    Con l (⟨"com/example/vestline/vestline/HoursHistories", "yearsAndHours", "(I)[I"⟩ : MethodName) prog_12_method_11_code 6 (some (.array .int)) ({ frames := 1, cells := 1, slots := 6, locals := 14 } : Room) ws Z #[(.ref a), (.int q)] h0 n0 (fun v h => ∃ r, v = some (.ref r) ∧ h0.size ≤ r ∧ Keep h0 h [] ∧ Arl Z h r .int (([y0, z0] : List Int32).map Value.int)) := by
  refine Con.of (plainFor_of_name pn1) ?_
  intro p e s m below meth c T X nm
  rw [show entryFrame m #[(.ref a), (.int q)] 6 = mkF m 0 #[.val (.ref a), .val (.int q), .unset, .unset, .unset, .unset] [] from by (first | (simp [entryFrame, mkF, argsToLocals, Value.category]; done) | rfl)]
  obtain ⟨⟨E, N, hn⟩, ⟨F_p, F_k, F_y, F_c⟩, ⟨A_P, A_Y⟩, ⟨nP, nY⟩, hPY, hPa, hYa⟩ := S
  have K := Keep.refl h0 []
  refine Wk.iconst X d39_0 1 rfl (0 : Int32) rfl ?_
  refine Wk.istoreN X d39_1 2 rfl #[.val (.ref a), .val (.int q), .val (.int (0 : Int32)), .unset, .unset, .unset] rfl ?_
  refine Wk.aloadN X d39_2 3 rfl rfl rfl ?_
  refine Wk.iloadN X d39_3 4 rfl rfl ?_
  refine Wk.iconst X d39_4 5 rfl (0 : Int32) rfl ?_
  refine Wk.callP X (t70 hw) (t72 hw) (t71 hw) (t2 hw) (t73 hw) (t19 hw) rfl E (con_field0 l Z a0 hw [] h0 n0 a P ps q qN hq hq4 hps (0) hf F_p A_P) (by decide) pd0 [(.int q), (.int (0 : Int32))] [] rfl rfl rfl rfl 0 (Nat.le_of_eq rfl) (by decide) (by decide) (by decide) (by decide) 0 0 rfl rfl d39_5 8 rfl ?_
  rintro _ T _ X ⟨rfl, rfl⟩
  show Wk p.tables e below _ (T.setTop (mkF m 8 #[.val (.ref a), .val (.int q), .val (.int (0 : Int32)), .unset, .unset, .unset] [(.int (0 : Int32))]))
  refine Wk.istoreN X d39_8 9 rfl #[.val (.ref a), .val (.int q), .val (.int (0 : Int32)), .val (.int (0 : Int32)), .unset, .unset] rfl ?_
  refine Wk.iloadN X d39_9 10 rfl rfl ?_
  refine Wk.iconst X d39_10 11 rfl (-1 : Int32) rfl ?_
  refine Wk.icmpF X d39_11 14 rfl (show ¬ (0 : Int32) = (-1 : Int32) from (by decide)) ?_
  refine Wk.iinc X d39_14 17 rfl #[.val (.ref a), .val (.int q), .val (.int (1 : Int32)), .val (.int (0 : Int32)), .unset, .unset] rfl rfl ?_
  refine Wk.aloadN X d39_17 18 rfl rfl rfl ?_
  refine Wk.getfield X (t12 hw) Via.refl F_y d39_18 21 rfl ?_
  intro T X
  refine Wk.iloadN X d39_21 22 rfl rfl ?_
  refine Wk.iconst X d39_22 23 rfl (3 : Int32) rfl ?_
  refine Wk.imul X d39_23 24 rfl ?_
  refine Wk.topI (0 : Int32) (by decide) ?_
  refine Wk.iconst X d39_24 25 rfl (2 : Int32) rfl ?_
  refine Wk.iadd X d39_25 26 rfl ?_
  refine Wk.topI (2 : Int32) (by decide) ?_
  refine Wk.iaload X A_Y 2 rfl (own_at hn0) d39_26 27 rfl ?_
  refine Wk.istoreN X d39_27 28 rfl #[.val (.ref a), .val (.int q), .val (.int (1 : Int32)), .val (.int (-1 : Int32)), .unset, .unset] rfl ?_
  refine Wk.goto X d39_28 9 (by decide) ?_
  refine Wk.iloadN X d39_9 10 rfl rfl ?_
  refine Wk.iconst X d39_10 11 rfl (-1 : Int32) rfl ?_
  refine Wk.icmpT X d39_11 31 (by decide) (show (-1 : Int32) = (-1 : Int32) from (by decide)) ?_
  refine Wk.iconst X d39_31 32 rfl (2 : Int32) rfl ?_
  refine Wk.iloadN X d39_32 33 rfl rfl ?_
  refine Wk.imul X d39_33 34 rfl ?_
  refine Wk.topI (2 : Int32) (by decide) ?_
  refine Wk.newarray (aty := .int) X (t9 hw) d39_34 36 rfl 2 rfl 2 (Nat.le_refl _) (by decide) (by decide) (by decide) ?_
  intro T h1 r gr X E1 B
  have hra : r ≠ a := Ne.symm (ne_new (Exa.lt E) gr)
  have hrY : r ≠ Y := Ne.symm (ne_new A_Y.lt gr)
  have hrP : r ≠ P := Ne.symm (ne_new A_P.lt gr)
  have hr0 : h0.size ≤ r := by omega
  have hrn : n0 ≤ r := nn_new hn (Exa.lt E) gr
  have E := Exa.ext E1 E
  have F_p := Fld.ext E1 F_p
  have F_y := Fld.ext E1 F_y
  have A_P := A_P.ext E1
  have A_Y := A_Y.ext E1
  have K := K.ext E1
  replace B : Arl Z h1 r .int (([0, 0] : List Int32).map Value.int) := B
  refine Wk.astoreN X d39_36 37 rfl #[.val (.ref a), .val (.int q), .val (.int (1 : Int32)), .val (.ref r), .unset, .unset] rfl rfl ?_
  refine Wk.iconst X d39_37 38 rfl (0 : Int32) rfl ?_
  refine Wk.istore X d39_38 40 rfl #[.val (.ref a), .val (.int q), .val (.int (1 : Int32)), .val (.ref r), .val (.int (0 : Int32)), .unset] rfl ?_
  refine Wk.aloadN X d39_40 41 rfl rfl rfl ?_
  refine Wk.iloadN X d39_41 42 rfl rfl ?_
  refine Wk.iconst X d39_42 43 rfl (0 : Int32) rfl ?_
  refine Wk.callP X (t70 hw) (t72 hw) (t71 hw) (t2 hw) (t73 hw) (t19 hw) rfl E (con_field0 l Z a0 hw [] h1 n0 a P ps q qN hq hq4 hps (0) hf F_p A_P) (by decide) pd0 [(.int q), (.int (0 : Int32))] [] rfl rfl rfl rfl 0 (Nat.le_of_eq rfl) (by decide) (by decide) (by decide) (by decide) 1 2 rfl rfl d39_43 46 rfl ?_
  rintro _ T _ X ⟨rfl, rfl⟩
  show Wk p.tables e below _ (T.setTop (mkF m 46 #[.val (.ref a), .val (.int q), .val (.int (1 : Int32)), .val (.ref r), .val (.int (0 : Int32)), .unset] [(.int (0 : Int32))]))
  refine Wk.istore X d39_46 48 rfl #[.val (.ref a), .val (.int q), .val (.int (1 : Int32)), .val (.ref r), .val (.int (0 : Int32)), .val (.int (0 : Int32))] rfl ?_
  refine Wk.iload X d39_48 50 rfl rfl ?_
  refine Wk.iconst X d39_50 51 rfl (-1 : Int32) rfl ?_
  refine Wk.icmpF X d39_51 54 rfl (show ¬ (0 : Int32) = (-1 : Int32) from (by decide)) ?_
  refine Wk.aloadN X d39_54 55 rfl rfl rfl ?_
  refine Wk.iload X d39_55 57 rfl rfl ?_
  refine Wk.iinc X d39_57 60 rfl #[.val (.ref a), .val (.int q), .val (.int (1 : Int32)), .val (.ref r), .val (.int (1 : Int32)), .val (.int (0 : Int32))] rfl rfl ?_
  refine Wk.aloadN X d39_60 61 rfl rfl rfl ?_
  refine Wk.getfield X (t12 hw) Via.refl F_y d39_61 64 rfl ?_
  intro T X
  refine Wk.iload X d39_64 66 rfl rfl ?_
  refine Wk.iconst X d39_66 67 rfl (3 : Int32) rfl ?_
  refine Wk.imul X d39_67 68 rfl ?_
  refine Wk.topI (0 : Int32) (by decide) ?_
  refine Wk.iconst X d39_68 69 rfl (0 : Int32) rfl ?_
  refine Wk.iadd X d39_69 70 rfl ?_
  refine Wk.topI (0 : Int32) (by decide) ?_
  refine Wk.iaload X A_Y 0 rfl (own_at hy0) d39_70 71 rfl ?_
  refine Wk.iastore X B hrn 0 rfl (Nat.le_of_ble_eq_true rfl) d39_71 72 rfl ?_
  intro T h2 X W2
  have B := B.set W2
  replace B : Arl Z h2 r .int (([y0, 0] : List Int32).map Value.int) := B
  have E := Exa.wr W2 E
  have F_p := Fld.other W2 F_p (Or.inl (Ne.symm hra))
  have F_y := Fld.other W2 F_y (Or.inl (Ne.symm hra))
  have A_P := A_P.other W2 (Ne.symm hrP)
  have A_Y := A_Y.other W2 (Ne.symm hrY)
  have K := K.wr W2 (Or.inr hr0)
  refine Wk.aloadN X d39_72 73 rfl rfl rfl ?_
  refine Wk.iload X d39_73 75 rfl rfl ?_
  refine Wk.iinc X d39_75 78 rfl #[.val (.ref a), .val (.int q), .val (.int (1 : Int32)), .val (.ref r), .val (.int (2 : Int32)), .val (.int (0 : Int32))] rfl rfl ?_
  refine Wk.aloadN X d39_78 79 rfl rfl rfl ?_
  refine Wk.getfield X (t12 hw) Via.refl F_y d39_79 82 rfl ?_
  intro T X
  refine Wk.iload X d39_82 84 rfl rfl ?_
  refine Wk.iconst X d39_84 85 rfl (3 : Int32) rfl ?_
  refine Wk.imul X d39_85 86 rfl ?_
  refine Wk.topI (0 : Int32) (by decide) ?_
  refine Wk.iconst X d39_86 87 rfl (1 : Int32) rfl ?_
  refine Wk.iadd X d39_87 88 rfl ?_
  refine Wk.topI (1 : Int32) (by decide) ?_
  refine Wk.iaload X A_Y 1 rfl (own_at hz0) d39_88 89 rfl ?_
  refine Wk.iastore X B hrn 1 rfl (Nat.le_of_ble_eq_true rfl) d39_89 90 rfl ?_
  intro T h3 X W3
  have B := B.set W3
  replace B : Arl Z h3 r .int (([y0, z0] : List Int32).map Value.int) := B
  have E := Exa.wr W3 E
  have F_p := Fld.other W3 F_p (Or.inl (Ne.symm hra))
  have F_y := Fld.other W3 F_y (Or.inl (Ne.symm hra))
  have A_P := A_P.other W3 (Ne.symm hrP)
  have A_Y := A_Y.other W3 (Ne.symm hrY)
  have K := K.wr W3 (Or.inr hr0)
  refine Wk.aloadN X d39_90 91 rfl rfl rfl ?_
  refine Wk.getfield X (t12 hw) Via.refl F_y d39_91 94 rfl ?_
  intro T X
  refine Wk.iload X d39_94 96 rfl rfl ?_
  refine Wk.iconst X d39_96 97 rfl (3 : Int32) rfl ?_
  refine Wk.imul X d39_97 98 rfl ?_
  refine Wk.topI (0 : Int32) (by decide) ?_
  refine Wk.iconst X d39_98 99 rfl (2 : Int32) rfl ?_
  refine Wk.iadd X d39_99 100 rfl ?_
  refine Wk.topI (2 : Int32) (by decide) ?_
  refine Wk.iaload X A_Y 2 rfl (own_at hn0) d39_100 101 rfl ?_
  refine Wk.istore X d39_101 103 rfl #[.val (.ref a), .val (.int q), .val (.int (1 : Int32)), .val (.ref r), .val (.int (2 : Int32)), .val (.int (-1 : Int32))] rfl ?_
  refine Wk.goto X d39_103 48 (by decide) ?_
  refine Wk.iload X d39_48 50 rfl rfl ?_
  refine Wk.iconst X d39_50 51 rfl (-1 : Int32) rfl ?_
  refine Wk.icmpT X d39_51 106 (by decide) (show (-1 : Int32) = (-1 : Int32) from (by decide)) ?_
  refine Wk.aloadN X d39_106 107 rfl rfl rfl ?_
  exact Wk.areturn X d39_107 (by decide) (by decide) rfl rfl rfl ⟨r, rfl, hr0, K, B⟩
set_option maxRecDepth 65536 in
set_option maxHeartbeats 40000000 in
theorem con_yah_1 (l : Launch) (Z : State) (a0 : Array Value) (hw : ∀ d ∈ tables_1, d.before a0 Z = true) (ws : List Jvm.Cond) (h0 : Heap) (n0 : Nat) (a P Y : Addr) (pk yc : Int32) (ps ys : List Int32) (q : Int32) (qN : Nat) (hq : q.toInt = qN) (hq4 : qN < 4) (hps : 6 * qN + 5 < ps.length) (hf : ps[6 * qN + 0]? = some (1 : Int32)) (y1 z1 : Int32) (hy1 : ys[3]? = some y1) (hz1 : ys[4]? = some z1) (hn1 : ys[5]? = some (-1 : Int32)) (S : HS Z h0 n0 a P Y pk yc ps ys) :
    Con l (⟨"com/example/vestline/vestline/HoursHistories", "yearsAndHours", "(I)[I"⟩ : MethodName) prog_12_method_11_code 6 (some (.array .int)) ({ frames := 1, cells := 1, slots := 6, locals := 14 } : Room) ws Z #[(.ref a), (.int q)] h0 n0 (fun v h => ∃ r, v = some (.ref r) ∧ h0.size ≤ r ∧ Keep h0 h [] ∧ Arl Z h r .int (([y1, z1] : List Int32).map Value.int)) := by
  refine Con.of (plainFor_of_name pn1) ?_
  intro p e s m below meth c T X nm
  rw [show entryFrame m #[(.ref a), (.int q)] 6 = mkF m 0 #[.val (.ref a), .val (.int q), .unset, .unset, .unset, .unset] [] from by (first | (simp [entryFrame, mkF, argsToLocals, Value.category]; done) | rfl)]
  obtain ⟨⟨E, N, hn⟩, ⟨F_p, F_k, F_y, F_c⟩, ⟨A_P, A_Y⟩, ⟨nP, nY⟩, hPY, hPa, hYa⟩ := S
  have K := Keep.refl h0 []
  refine Wk.iconst X d39_0 1 rfl (0 : Int32) rfl ?_
  refine Wk.istoreN X d39_1 2 rfl #[.val (.ref a), .val (.int q), .val (.int (0 : Int32)), .unset, .unset, .unset] rfl ?_
  refine Wk.aloadN X d39_2 3 rfl rfl rfl ?_
  refine Wk.iloadN X d39_3 4 rfl rfl ?_
  refine Wk.iconst X d39_4 5 rfl (0 : Int32) rfl ?_
  refine Wk.callP X (t70 hw) (t72 hw) (t71 hw) (t2 hw) (t73 hw) (t19 hw) rfl E (con_field0 l Z a0 hw [] h0 n0 a P ps q qN hq hq4 hps (1) hf F_p A_P) (by decide) pd0 [(.int q), (.int (0 : Int32))] [] rfl rfl rfl rfl 0 (Nat.le_of_eq rfl) (by decide) (by decide) (by decide) (by decide) 0 0 rfl rfl d39_5 8 rfl ?_
  rintro _ T _ X ⟨rfl, rfl⟩
  show Wk p.tables e below _ (T.setTop (mkF m 8 #[.val (.ref a), .val (.int q), .val (.int (0 : Int32)), .unset, .unset, .unset] [(.int (1 : Int32))]))
  refine Wk.istoreN X d39_8 9 rfl #[.val (.ref a), .val (.int q), .val (.int (0 : Int32)), .val (.int (1 : Int32)), .unset, .unset] rfl ?_
  refine Wk.iloadN X d39_9 10 rfl rfl ?_
  refine Wk.iconst X d39_10 11 rfl (-1 : Int32) rfl ?_
  refine Wk.icmpF X d39_11 14 rfl (show ¬ (1 : Int32) = (-1 : Int32) from (by decide)) ?_
  refine Wk.iinc X d39_14 17 rfl #[.val (.ref a), .val (.int q), .val (.int (1 : Int32)), .val (.int (1 : Int32)), .unset, .unset] rfl rfl ?_
  refine Wk.aloadN X d39_17 18 rfl rfl rfl ?_
  refine Wk.getfield X (t12 hw) Via.refl F_y d39_18 21 rfl ?_
  intro T X
  refine Wk.iloadN X d39_21 22 rfl rfl ?_
  refine Wk.iconst X d39_22 23 rfl (3 : Int32) rfl ?_
  refine Wk.imul X d39_23 24 rfl ?_
  refine Wk.topI (3 : Int32) (by decide) ?_
  refine Wk.iconst X d39_24 25 rfl (2 : Int32) rfl ?_
  refine Wk.iadd X d39_25 26 rfl ?_
  refine Wk.topI (5 : Int32) (by decide) ?_
  refine Wk.iaload X A_Y 5 rfl (own_at hn1) d39_26 27 rfl ?_
  refine Wk.istoreN X d39_27 28 rfl #[.val (.ref a), .val (.int q), .val (.int (1 : Int32)), .val (.int (-1 : Int32)), .unset, .unset] rfl ?_
  refine Wk.goto X d39_28 9 (by decide) ?_
  refine Wk.iloadN X d39_9 10 rfl rfl ?_
  refine Wk.iconst X d39_10 11 rfl (-1 : Int32) rfl ?_
  refine Wk.icmpT X d39_11 31 (by decide) (show (-1 : Int32) = (-1 : Int32) from (by decide)) ?_
  refine Wk.iconst X d39_31 32 rfl (2 : Int32) rfl ?_
  refine Wk.iloadN X d39_32 33 rfl rfl ?_
  refine Wk.imul X d39_33 34 rfl ?_
  refine Wk.topI (2 : Int32) (by decide) ?_
  refine Wk.newarray (aty := .int) X (t9 hw) d39_34 36 rfl 2 rfl 2 (Nat.le_refl _) (by decide) (by decide) (by decide) ?_
  intro T h1 r gr X E1 B
  have hra : r ≠ a := Ne.symm (ne_new (Exa.lt E) gr)
  have hrY : r ≠ Y := Ne.symm (ne_new A_Y.lt gr)
  have hrP : r ≠ P := Ne.symm (ne_new A_P.lt gr)
  have hr0 : h0.size ≤ r := by omega
  have hrn : n0 ≤ r := nn_new hn (Exa.lt E) gr
  have E := Exa.ext E1 E
  have F_p := Fld.ext E1 F_p
  have F_y := Fld.ext E1 F_y
  have A_P := A_P.ext E1
  have A_Y := A_Y.ext E1
  have K := K.ext E1
  replace B : Arl Z h1 r .int (([0, 0] : List Int32).map Value.int) := B
  refine Wk.astoreN X d39_36 37 rfl #[.val (.ref a), .val (.int q), .val (.int (1 : Int32)), .val (.ref r), .unset, .unset] rfl rfl ?_
  refine Wk.iconst X d39_37 38 rfl (0 : Int32) rfl ?_
  refine Wk.istore X d39_38 40 rfl #[.val (.ref a), .val (.int q), .val (.int (1 : Int32)), .val (.ref r), .val (.int (0 : Int32)), .unset] rfl ?_
  refine Wk.aloadN X d39_40 41 rfl rfl rfl ?_
  refine Wk.iloadN X d39_41 42 rfl rfl ?_
  refine Wk.iconst X d39_42 43 rfl (0 : Int32) rfl ?_
  refine Wk.callP X (t70 hw) (t72 hw) (t71 hw) (t2 hw) (t73 hw) (t19 hw) rfl E (con_field0 l Z a0 hw [] h1 n0 a P ps q qN hq hq4 hps (1) hf F_p A_P) (by decide) pd0 [(.int q), (.int (0 : Int32))] [] rfl rfl rfl rfl 0 (Nat.le_of_eq rfl) (by decide) (by decide) (by decide) (by decide) 1 2 rfl rfl d39_43 46 rfl ?_
  rintro _ T _ X ⟨rfl, rfl⟩
  show Wk p.tables e below _ (T.setTop (mkF m 46 #[.val (.ref a), .val (.int q), .val (.int (1 : Int32)), .val (.ref r), .val (.int (0 : Int32)), .unset] [(.int (1 : Int32))]))
  refine Wk.istore X d39_46 48 rfl #[.val (.ref a), .val (.int q), .val (.int (1 : Int32)), .val (.ref r), .val (.int (0 : Int32)), .val (.int (1 : Int32))] rfl ?_
  refine Wk.iload X d39_48 50 rfl rfl ?_
  refine Wk.iconst X d39_50 51 rfl (-1 : Int32) rfl ?_
  refine Wk.icmpF X d39_51 54 rfl (show ¬ (1 : Int32) = (-1 : Int32) from (by decide)) ?_
  refine Wk.aloadN X d39_54 55 rfl rfl rfl ?_
  refine Wk.iload X d39_55 57 rfl rfl ?_
  refine Wk.iinc X d39_57 60 rfl #[.val (.ref a), .val (.int q), .val (.int (1 : Int32)), .val (.ref r), .val (.int (1 : Int32)), .val (.int (1 : Int32))] rfl rfl ?_
  refine Wk.aloadN X d39_60 61 rfl rfl rfl ?_
  refine Wk.getfield X (t12 hw) Via.refl F_y d39_61 64 rfl ?_
  intro T X
  refine Wk.iload X d39_64 66 rfl rfl ?_
  refine Wk.iconst X d39_66 67 rfl (3 : Int32) rfl ?_
  refine Wk.imul X d39_67 68 rfl ?_
  refine Wk.topI (3 : Int32) (by decide) ?_
  refine Wk.iconst X d39_68 69 rfl (0 : Int32) rfl ?_
  refine Wk.iadd X d39_69 70 rfl ?_
  refine Wk.topI (3 : Int32) (by decide) ?_
  refine Wk.iaload X A_Y 3 rfl (own_at hy1) d39_70 71 rfl ?_
  refine Wk.iastore X B hrn 0 rfl (Nat.le_of_ble_eq_true rfl) d39_71 72 rfl ?_
  intro T h2 X W2
  have B := B.set W2
  replace B : Arl Z h2 r .int (([y1, 0] : List Int32).map Value.int) := B
  have E := Exa.wr W2 E
  have F_p := Fld.other W2 F_p (Or.inl (Ne.symm hra))
  have F_y := Fld.other W2 F_y (Or.inl (Ne.symm hra))
  have A_P := A_P.other W2 (Ne.symm hrP)
  have A_Y := A_Y.other W2 (Ne.symm hrY)
  have K := K.wr W2 (Or.inr hr0)
  refine Wk.aloadN X d39_72 73 rfl rfl rfl ?_
  refine Wk.iload X d39_73 75 rfl rfl ?_
  refine Wk.iinc X d39_75 78 rfl #[.val (.ref a), .val (.int q), .val (.int (1 : Int32)), .val (.ref r), .val (.int (2 : Int32)), .val (.int (1 : Int32))] rfl rfl ?_
  refine Wk.aloadN X d39_78 79 rfl rfl rfl ?_
  refine Wk.getfield X (t12 hw) Via.refl F_y d39_79 82 rfl ?_
  intro T X
  refine Wk.iload X d39_82 84 rfl rfl ?_
  refine Wk.iconst X d39_84 85 rfl (3 : Int32) rfl ?_
  refine Wk.imul X d39_85 86 rfl ?_
  refine Wk.topI (3 : Int32) (by decide) ?_
  refine Wk.iconst X d39_86 87 rfl (1 : Int32) rfl ?_
  refine Wk.iadd X d39_87 88 rfl ?_
  refine Wk.topI (4 : Int32) (by decide) ?_
  refine Wk.iaload X A_Y 4 rfl (own_at hz1) d39_88 89 rfl ?_
  refine Wk.iastore X B hrn 1 rfl (Nat.le_of_ble_eq_true rfl) d39_89 90 rfl ?_
  intro T h3 X W3
  have B := B.set W3
  replace B : Arl Z h3 r .int (([y1, z1] : List Int32).map Value.int) := B
  have E := Exa.wr W3 E
  have F_p := Fld.other W3 F_p (Or.inl (Ne.symm hra))
  have F_y := Fld.other W3 F_y (Or.inl (Ne.symm hra))
  have A_P := A_P.other W3 (Ne.symm hrP)
  have A_Y := A_Y.other W3 (Ne.symm hrY)
  have K := K.wr W3 (Or.inr hr0)
  refine Wk.aloadN X d39_90 91 rfl rfl rfl ?_
  refine Wk.getfield X (t12 hw) Via.refl F_y d39_91 94 rfl ?_
  intro T X
  refine Wk.iload X d39_94 96 rfl rfl ?_
  refine Wk.iconst X d39_96 97 rfl (3 : Int32) rfl ?_
  refine Wk.imul X d39_97 98 rfl ?_
  refine Wk.topI (3 : Int32) (by decide) ?_
  refine Wk.iconst X d39_98 99 rfl (2 : Int32) rfl ?_
  refine Wk.iadd X d39_99 100 rfl ?_
  refine Wk.topI (5 : Int32) (by decide) ?_
  refine Wk.iaload X A_Y 5 rfl (own_at hn1) d39_100 101 rfl ?_
  refine Wk.istore X d39_101 103 rfl #[.val (.ref a), .val (.int q), .val (.int (1 : Int32)), .val (.ref r), .val (.int (2 : Int32)), .val (.int (-1 : Int32))] rfl ?_
  refine Wk.goto X d39_103 48 (by decide) ?_
  refine Wk.iload X d39_48 50 rfl rfl ?_
  refine Wk.iconst X d39_50 51 rfl (-1 : Int32) rfl ?_
  refine Wk.icmpT X d39_51 106 (by decide) (show (-1 : Int32) = (-1 : Int32) from (by decide)) ?_
  refine Wk.aloadN X d39_106 107 rfl rfl rfl ?_
  exact Wk.areturn X d39_107 (by decide) (by decide) rfl rfl rfl ⟨r, rfl, hr0, K, B⟩
set_option maxRecDepth 65536 in
set_option maxHeartbeats 40000000 in
theorem con_yah_2 (l : Launch) (Z : State) (a0 : Array Value) (hw : ∀ d ∈ tables_1, d.before a0 Z = true) (ws : List Jvm.Cond) (h0 : Heap) (n0 : Nat) (a P Y : Addr) (pk yc : Int32) (ps ys : List Int32) (q : Int32) (qN : Nat) (hq : q.toInt = qN) (hq4 : qN < 4) (hps : 6 * qN + 5 < ps.length) (hf : ps[6 * qN + 0]? = some (2 : Int32)) (y2 z2 : Int32) (hy2 : ys[6]? = some y2) (hz2 : ys[7]? = some z2) (hn2 : ys[8]? = some (-1 : Int32)) (S : HS Z h0 n0 a P Y pk yc ps ys) :
    Con l (⟨"com/example/vestline/vestline/HoursHistories", "yearsAndHours", "(I)[I"⟩ : MethodName) prog_12_method_11_code 6 (some (.array .int)) ({ frames := 1, cells := 1, slots := 6, locals := 14 } : Room) ws Z #[(.ref a), (.int q)] h0 n0 (fun v h => ∃ r, v = some (.ref r) ∧ h0.size ≤ r ∧ Keep h0 h [] ∧ Arl Z h r .int (([y2, z2] : List Int32).map Value.int)) := by
  refine Con.of (plainFor_of_name pn1) ?_
  intro p e s m below meth c T X nm
  rw [show entryFrame m #[(.ref a), (.int q)] 6 = mkF m 0 #[.val (.ref a), .val (.int q), .unset, .unset, .unset, .unset] [] from by (first | (simp [entryFrame, mkF, argsToLocals, Value.category]; done) | rfl)]
  obtain ⟨⟨E, N, hn⟩, ⟨F_p, F_k, F_y, F_c⟩, ⟨A_P, A_Y⟩, ⟨nP, nY⟩, hPY, hPa, hYa⟩ := S
  have K := Keep.refl h0 []
  refine Wk.iconst X d39_0 1 rfl (0 : Int32) rfl ?_
  refine Wk.istoreN X d39_1 2 rfl #[.val (.ref a), .val (.int q), .val (.int (0 : Int32)), .unset, .unset, .unset] rfl ?_
  refine Wk.aloadN X d39_2 3 rfl rfl rfl ?_
  refine Wk.iloadN X d39_3 4 rfl rfl ?_
  refine Wk.iconst X d39_4 5 rfl (0 : Int32) rfl ?_
  refine Wk.callP X (t70 hw) (t72 hw) (t71 hw) (t2 hw) (t73 hw) (t19 hw) rfl E (con_field0 l Z a0 hw [] h0 n0 a P ps q qN hq hq4 hps (2) hf F_p A_P) (by decide) pd0 [(.int q), (.int (0 : Int32))] [] rfl rfl rfl rfl 0 (Nat.le_of_eq rfl) (by decide) (by decide) (by decide) (by decide) 0 0 rfl rfl d39_5 8 rfl ?_
  rintro _ T _ X ⟨rfl, rfl⟩
  show Wk p.tables e below _ (T.setTop (mkF m 8 #[.val (.ref a), .val (.int q), .val (.int (0 : Int32)), .unset, .unset, .unset] [(.int (2 : Int32))]))
  refine Wk.istoreN X d39_8 9 rfl #[.val (.ref a), .val (.int q), .val (.int (0 : Int32)), .val (.int (2 : Int32)), .unset, .unset] rfl ?_
  refine Wk.iloadN X d39_9 10 rfl rfl ?_
  refine Wk.iconst X d39_10 11 rfl (-1 : Int32) rfl ?_
  refine Wk.icmpF X d39_11 14 rfl (show ¬ (2 : Int32) = (-1 : Int32) from (by decide)) ?_
  refine Wk.iinc X d39_14 17 rfl #[.val (.ref a), .val (.int q), .val (.int (1 : Int32)), .val (.int (2 : Int32)), .unset, .unset] rfl rfl ?_
  refine Wk.aloadN X d39_17 18 rfl rfl rfl ?_
  refine Wk.getfield X (t12 hw) Via.refl F_y d39_18 21 rfl ?_
  intro T X
  refine Wk.iloadN X d39_21 22 rfl rfl ?_
  refine Wk.iconst X d39_22 23 rfl (3 : Int32) rfl ?_
  refine Wk.imul X d39_23 24 rfl ?_
  refine Wk.topI (6 : Int32) (by decide) ?_
  refine Wk.iconst X d39_24 25 rfl (2 : Int32) rfl ?_
  refine Wk.iadd X d39_25 26 rfl ?_
  refine Wk.topI (8 : Int32) (by decide) ?_
  refine Wk.iaload X A_Y 8 rfl (own_at hn2) d39_26 27 rfl ?_
  refine Wk.istoreN X d39_27 28 rfl #[.val (.ref a), .val (.int q), .val (.int (1 : Int32)), .val (.int (-1 : Int32)), .unset, .unset] rfl ?_
  refine Wk.goto X d39_28 9 (by decide) ?_
  refine Wk.iloadN X d39_9 10 rfl rfl ?_
  refine Wk.iconst X d39_10 11 rfl (-1 : Int32) rfl ?_
  refine Wk.icmpT X d39_11 31 (by decide) (show (-1 : Int32) = (-1 : Int32) from (by decide)) ?_
  refine Wk.iconst X d39_31 32 rfl (2 : Int32) rfl ?_
  refine Wk.iloadN X d39_32 33 rfl rfl ?_
  refine Wk.imul X d39_33 34 rfl ?_
  refine Wk.topI (2 : Int32) (by decide) ?_
  refine Wk.newarray (aty := .int) X (t9 hw) d39_34 36 rfl 2 rfl 2 (Nat.le_refl _) (by decide) (by decide) (by decide) ?_
  intro T h1 r gr X E1 B
  have hra : r ≠ a := Ne.symm (ne_new (Exa.lt E) gr)
  have hrY : r ≠ Y := Ne.symm (ne_new A_Y.lt gr)
  have hrP : r ≠ P := Ne.symm (ne_new A_P.lt gr)
  have hr0 : h0.size ≤ r := by omega
  have hrn : n0 ≤ r := nn_new hn (Exa.lt E) gr
  have E := Exa.ext E1 E
  have F_p := Fld.ext E1 F_p
  have F_y := Fld.ext E1 F_y
  have A_P := A_P.ext E1
  have A_Y := A_Y.ext E1
  have K := K.ext E1
  replace B : Arl Z h1 r .int (([0, 0] : List Int32).map Value.int) := B
  refine Wk.astoreN X d39_36 37 rfl #[.val (.ref a), .val (.int q), .val (.int (1 : Int32)), .val (.ref r), .unset, .unset] rfl rfl ?_
  refine Wk.iconst X d39_37 38 rfl (0 : Int32) rfl ?_
  refine Wk.istore X d39_38 40 rfl #[.val (.ref a), .val (.int q), .val (.int (1 : Int32)), .val (.ref r), .val (.int (0 : Int32)), .unset] rfl ?_
  refine Wk.aloadN X d39_40 41 rfl rfl rfl ?_
  refine Wk.iloadN X d39_41 42 rfl rfl ?_
  refine Wk.iconst X d39_42 43 rfl (0 : Int32) rfl ?_
  refine Wk.callP X (t70 hw) (t72 hw) (t71 hw) (t2 hw) (t73 hw) (t19 hw) rfl E (con_field0 l Z a0 hw [] h1 n0 a P ps q qN hq hq4 hps (2) hf F_p A_P) (by decide) pd0 [(.int q), (.int (0 : Int32))] [] rfl rfl rfl rfl 0 (Nat.le_of_eq rfl) (by decide) (by decide) (by decide) (by decide) 1 2 rfl rfl d39_43 46 rfl ?_
  rintro _ T _ X ⟨rfl, rfl⟩
  show Wk p.tables e below _ (T.setTop (mkF m 46 #[.val (.ref a), .val (.int q), .val (.int (1 : Int32)), .val (.ref r), .val (.int (0 : Int32)), .unset] [(.int (2 : Int32))]))
  refine Wk.istore X d39_46 48 rfl #[.val (.ref a), .val (.int q), .val (.int (1 : Int32)), .val (.ref r), .val (.int (0 : Int32)), .val (.int (2 : Int32))] rfl ?_
  refine Wk.iload X d39_48 50 rfl rfl ?_
  refine Wk.iconst X d39_50 51 rfl (-1 : Int32) rfl ?_
  refine Wk.icmpF X d39_51 54 rfl (show ¬ (2 : Int32) = (-1 : Int32) from (by decide)) ?_
  refine Wk.aloadN X d39_54 55 rfl rfl rfl ?_
  refine Wk.iload X d39_55 57 rfl rfl ?_
  refine Wk.iinc X d39_57 60 rfl #[.val (.ref a), .val (.int q), .val (.int (1 : Int32)), .val (.ref r), .val (.int (1 : Int32)), .val (.int (2 : Int32))] rfl rfl ?_
  refine Wk.aloadN X d39_60 61 rfl rfl rfl ?_
  refine Wk.getfield X (t12 hw) Via.refl F_y d39_61 64 rfl ?_
  intro T X
  refine Wk.iload X d39_64 66 rfl rfl ?_
  refine Wk.iconst X d39_66 67 rfl (3 : Int32) rfl ?_
  refine Wk.imul X d39_67 68 rfl ?_
  refine Wk.topI (6 : Int32) (by decide) ?_
  refine Wk.iconst X d39_68 69 rfl (0 : Int32) rfl ?_
  refine Wk.iadd X d39_69 70 rfl ?_
  refine Wk.topI (6 : Int32) (by decide) ?_
  refine Wk.iaload X A_Y 6 rfl (own_at hy2) d39_70 71 rfl ?_
  refine Wk.iastore X B hrn 0 rfl (Nat.le_of_ble_eq_true rfl) d39_71 72 rfl ?_
  intro T h2 X W2
  have B := B.set W2
  replace B : Arl Z h2 r .int (([y2, 0] : List Int32).map Value.int) := B
  have E := Exa.wr W2 E
  have F_p := Fld.other W2 F_p (Or.inl (Ne.symm hra))
  have F_y := Fld.other W2 F_y (Or.inl (Ne.symm hra))
  have A_P := A_P.other W2 (Ne.symm hrP)
  have A_Y := A_Y.other W2 (Ne.symm hrY)
  have K := K.wr W2 (Or.inr hr0)
  refine Wk.aloadN X d39_72 73 rfl rfl rfl ?_
  refine Wk.iload X d39_73 75 rfl rfl ?_
  refine Wk.iinc X d39_75 78 rfl #[.val (.ref a), .val (.int q), .val (.int (1 : Int32)), .val (.ref r), .val (.int (2 : Int32)), .val (.int (2 : Int32))] rfl rfl ?_
  refine Wk.aloadN X d39_78 79 rfl rfl rfl ?_
  refine Wk.getfield X (t12 hw) Via.refl F_y d39_79 82 rfl ?_
  intro T X
  refine Wk.iload X d39_82 84 rfl rfl ?_
  refine Wk.iconst X d39_84 85 rfl (3 : Int32) rfl ?_
  refine Wk.imul X d39_85 86 rfl ?_
  refine Wk.topI (6 : Int32) (by decide) ?_
  refine Wk.iconst X d39_86 87 rfl (1 : Int32) rfl ?_
  refine Wk.iadd X d39_87 88 rfl ?_
  refine Wk.topI (7 : Int32) (by decide) ?_
  refine Wk.iaload X A_Y 7 rfl (own_at hz2) d39_88 89 rfl ?_
  refine Wk.iastore X B hrn 1 rfl (Nat.le_of_ble_eq_true rfl) d39_89 90 rfl ?_
  intro T h3 X W3
  have B := B.set W3
  replace B : Arl Z h3 r .int (([y2, z2] : List Int32).map Value.int) := B
  have E := Exa.wr W3 E
  have F_p := Fld.other W3 F_p (Or.inl (Ne.symm hra))
  have F_y := Fld.other W3 F_y (Or.inl (Ne.symm hra))
  have A_P := A_P.other W3 (Ne.symm hrP)
  have A_Y := A_Y.other W3 (Ne.symm hrY)
  have K := K.wr W3 (Or.inr hr0)
  refine Wk.aloadN X d39_90 91 rfl rfl rfl ?_
  refine Wk.getfield X (t12 hw) Via.refl F_y d39_91 94 rfl ?_
  intro T X
  refine Wk.iload X d39_94 96 rfl rfl ?_
  refine Wk.iconst X d39_96 97 rfl (3 : Int32) rfl ?_
  refine Wk.imul X d39_97 98 rfl ?_
  refine Wk.topI (6 : Int32) (by decide) ?_
  refine Wk.iconst X d39_98 99 rfl (2 : Int32) rfl ?_
  refine Wk.iadd X d39_99 100 rfl ?_
  refine Wk.topI (8 : Int32) (by decide) ?_
  refine Wk.iaload X A_Y 8 rfl (own_at hn2) d39_100 101 rfl ?_
  refine Wk.istore X d39_101 103 rfl #[.val (.ref a), .val (.int q), .val (.int (1 : Int32)), .val (.ref r), .val (.int (2 : Int32)), .val (.int (-1 : Int32))] rfl ?_
  refine Wk.goto X d39_103 48 (by decide) ?_
  refine Wk.iload X d39_48 50 rfl rfl ?_
  refine Wk.iconst X d39_50 51 rfl (-1 : Int32) rfl ?_
  refine Wk.icmpT X d39_51 106 (by decide) (show (-1 : Int32) = (-1 : Int32) from (by decide)) ?_
  refine Wk.aloadN X d39_106 107 rfl rfl rfl ?_
  exact Wk.areturn X d39_107 (by decide) (by decide) rfl rfl rfl ⟨r, rfl, hr0, K, B⟩
set_option maxRecDepth 65536 in
set_option maxHeartbeats 40000000 in
theorem con_yah_ (l : Launch) (Z : State) (a0 : Array Value) (hw : ∀ d ∈ tables_1, d.before a0 Z = true) (ws : List Jvm.Cond) (h0 : Heap) (n0 : Nat) (a P Y : Addr) (pk yc : Int32) (ps ys : List Int32) (q : Int32) (qN : Nat) (hq : q.toInt = qN) (hq4 : qN < 4) (hps : 6 * qN + 5 < ps.length) (hf : ps[6 * qN + 0]? = some (-1 : Int32))  (S : HS Z h0 n0 a P Y pk yc ps ys) :
    Con l (⟨"com/example/vestline/vestline/HoursHistories", "yearsAndHours", "(I)[I"⟩ : MethodName) prog_12_method_11_code 6 (some (.array .int)) ({ frames := 1, cells := 1, slots := 6, locals := 14 } : Room) ws Z #[(.ref a), (.int q)] h0 n0 (fun v h => ∃ r, v = some (.ref r) ∧ h0.size ≤ r ∧ Keep h0 h [] ∧ Arl Z h r .int (([] : List Int32).map Value.int)) := by
  refine Con.of (plainFor_of_name pn1) ?_
  intro p e s m below meth c T X nm
  rw [show entryFrame m #[(.ref a), (.int q)] 6 = mkF m 0 #[.val (.ref a), .val (.int q), .unset, .unset, .unset, .unset] [] from by (first | (simp [entryFrame, mkF, argsToLocals, Value.category]; done) | rfl)]
  obtain ⟨⟨E, N, hn⟩, ⟨F_p, F_k, F_y, F_c⟩, ⟨A_P, A_Y⟩, ⟨nP, nY⟩, hPY, hPa, hYa⟩ := S
  have K := Keep.refl h0 []
  refine Wk.iconst X d39_0 1 rfl (0 : Int32) rfl ?_
  refine Wk.istoreN X d39_1 2 rfl #[.val (.ref a), .val (.int q), .val (.int (0 : Int32)), .unset, .unset, .unset] rfl ?_
  refine Wk.aloadN X d39_2 3 rfl rfl rfl ?_
  refine Wk.iloadN X d39_3 4 rfl rfl ?_
  refine Wk.iconst X d39_4 5 rfl (0 : Int32) rfl ?_
  refine Wk.callP X (t70 hw) (t72 hw) (t71 hw) (t2 hw) (t73 hw) (t19 hw) rfl E (con_field0 l Z a0 hw [] h0 n0 a P ps q qN hq hq4 hps (-1) hf F_p A_P) (by decide) pd0 [(.int q), (.int (0 : Int32))] [] rfl rfl rfl rfl 0 (Nat.le_of_eq rfl) (by decide) (by decide) (by decide) (by decide) 0 0 rfl rfl d39_5 8 rfl ?_
  rintro _ T _ X ⟨rfl, rfl⟩
  show Wk p.tables e below _ (T.setTop (mkF m 8 #[.val (.ref a), .val (.int q), .val (.int (0 : Int32)), .unset, .unset, .unset] [(.int (-1 : Int32))]))
  refine Wk.istoreN X d39_8 9 rfl #[.val (.ref a), .val (.int q), .val (.int (0 : Int32)), .val (.int (-1 : Int32)), .unset, .unset] rfl ?_
  refine Wk.iloadN X d39_9 10 rfl rfl ?_
  refine Wk.iconst X d39_10 11 rfl (-1 : Int32) rfl ?_
  refine Wk.icmpT X d39_11 31 (by decide) (show (-1 : Int32) = (-1 : Int32) from (by decide)) ?_
  refine Wk.iconst X d39_31 32 rfl (2 : Int32) rfl ?_
  refine Wk.iloadN X d39_32 33 rfl rfl ?_
  refine Wk.imul X d39_33 34 rfl ?_
  refine Wk.topI (0 : Int32) (by decide) ?_
  refine Wk.newarray (aty := .int) X (t9 hw) d39_34 36 rfl 0 rfl 0 (Nat.le_refl _) (by decide) (by decide) (by decide) ?_
  intro T h1 r gr X E1 B
  have hra : r ≠ a := Ne.symm (ne_new (Exa.lt E) gr)
  have hrY : r ≠ Y := Ne.symm (ne_new A_Y.lt gr)
  have hrP : r ≠ P := Ne.symm (ne_new A_P.lt gr)
  have hr0 : h0.size ≤ r := by omega
  have hrn : n0 ≤ r := nn_new hn (Exa.lt E) gr
  have E := Exa.ext E1 E
  have F_p := Fld.ext E1 F_p
  have F_y := Fld.ext E1 F_y
  have A_P := A_P.ext E1
  have A_Y := A_Y.ext E1
  have K := K.ext E1
  replace B : Arl Z h1 r .int (([] : List Int32).map Value.int) := B
  refine Wk.astoreN X d39_36 37 rfl #[.val (.ref a), .val (.int q), .val (.int (0 : Int32)), .val (.ref r), .unset, .unset] rfl rfl ?_
  refine Wk.iconst X d39_37 38 rfl (0 : Int32) rfl ?_
  refine Wk.istore X d39_38 40 rfl #[.val (.ref a), .val (.int q), .val (.int (0 : Int32)), .val (.ref r), .val (.int (0 : Int32)), .unset] rfl ?_
  refine Wk.aloadN X d39_40 41 rfl rfl rfl ?_
  refine Wk.iloadN X d39_41 42 rfl rfl ?_
  refine Wk.iconst X d39_42 43 rfl (0 : Int32) rfl ?_
  refine Wk.callP X (t70 hw) (t72 hw) (t71 hw) (t2 hw) (t73 hw) (t19 hw) rfl E (con_field0 l Z a0 hw [] h1 n0 a P ps q qN hq hq4 hps (-1) hf F_p A_P) (by decide) pd0 [(.int q), (.int (0 : Int32))] [] rfl rfl rfl rfl 0 (Nat.le_of_eq rfl) (by decide) (by decide) (by decide) (by decide) 1 0 rfl rfl d39_43 46 rfl ?_
  rintro _ T _ X ⟨rfl, rfl⟩
  show Wk p.tables e below _ (T.setTop (mkF m 46 #[.val (.ref a), .val (.int q), .val (.int (0 : Int32)), .val (.ref r), .val (.int (0 : Int32)), .unset] [(.int (-1 : Int32))]))
  refine Wk.istore X d39_46 48 rfl #[.val (.ref a), .val (.int q), .val (.int (0 : Int32)), .val (.ref r), .val (.int (0 : Int32)), .val (.int (-1 : Int32))] rfl ?_
  refine Wk.iload X d39_48 50 rfl rfl ?_
  refine Wk.iconst X d39_50 51 rfl (-1 : Int32) rfl ?_
  refine Wk.icmpT X d39_51 106 (by decide) (show (-1 : Int32) = (-1 : Int32) from (by decide)) ?_
  refine Wk.aloadN X d39_106 107 rfl rfl rfl ?_
  exact Wk.areturn X d39_107 (by decide) (by decide) rfl rfl rfl ⟨r, rfl, hr0, K, B⟩
set_option maxRecDepth 65536 in
set_option maxHeartbeats 40000000 in
theorem con_law (l : Launch) (Z : State) (a0 : Array Value) (hw : ∀ d ∈ tables_1, d.before a0 Z = true) (ws : List Jvm.Cond) (h0 : Heap) (n0 : Nat) (y0 z0 y1 z1 y2 fl : Int32) (Z0 : n0 ≤ h0.size) :
    Con l x code maxLocals ret room_1 ws Z #[(.int y0), (.int z0), (.int y1), (.int z1), (.int y2), (.int fl)] h0 n0 (fun v _ => v = some (.int 1)) := by
  refine Con.of (plainFor_of_name pn2) ?_
  intro p e s m below meth c T X nm
  rw [show entryFrame m #[(.int y0), (.int z0), (.int y1), (.int z1), (.int y2), (.int fl)] maxLocals = mkF m 0 #[.val (.int y0), .val (.int z0), .val (.int y1), .val (.int z1), .val (.int y2), .val (.int fl), .unset, .unset, .unset, .unset, .unset, .unset, .unset, .unset, .unset, .unset, .unset, .unset, .unset] [] from by (first | (simp [entryFrame, mkF, argsToLocals, Value.category, maxLocals]; done) | rfl)]
  refine Wk.new X (t0 hw) (t1 hw) (t2 hw) at_0 3 rfl (by decide) (by decide) ?_
  intro T h1 a ga X E1 E D1
  have F_k : Fld Z h1 a "com/example/vestline/vestline/HoursHistories" "participantCount" "I" (.int 0) := D1 (Or.inl (t22 hw)) (ty := .int) (by decide)
  have F_c : Fld Z h1 a "com/example/vestline/vestline/HoursHistories" "yearCount" "I" (.int 0) := D1 (Or.inl (t56 hw)) (ty := .int) (by decide)
  have hn : n0 ≤ a := by omega
  refine Wk.dup X at_3 4 rfl rfl ?_
  refine Wk.callI X rfl (t3 hw) (t4 hw) (t2 hw) (t5 hw) (con_init l Z a0 hw [] h1 n0 a E (Kn.of F_k) hn F_k F_c) (by decide) pd6 [] [(.ref a)] rfl rfl rfl rfl 1 (Nat.le_of_eq rfl) (by decide) (by decide) (by decide) (by decide) 4 6 rfl rfl at_4 7 rfl ?_
  rintro _ T h2 X ⟨rfl, K2, P0, Y0, S⟩
  show Wk p.tables e below _ (T.setTop (mkF m 7 #[.val (.int y0), .val (.int z0), .val (.int y1), .val (.int z1), .val (.int y2), .val (.int fl), .unset, .unset, .unset, .unset, .unset, .unset, .unset, .unset, .unset, .unset, .unset, .unset, .unset] [(.ref a)]))
  refine Wk.astore X at_7 9 rfl #[.val (.int y0), .val (.int z0), .val (.int y1), .val (.int z1), .val (.int y2), .val (.int fl), .val (.ref a), .unset, .unset, .unset, .unset, .unset, .unset, .unset, .unset, .unset, .unset, .unset, .unset] rfl rfl ?_
  refine Wk.aload X at_9 11 rfl rfl rfl ?_
  refine Wk.callV X (t16 hw) (t17 hw) (t19 hw) (t18 hw) (t2 hw) (t20 hw) S.1.1 (con_add0 l Z a0 hw [] h2 n0 a P0 Y0 0 ([] : List Int32) [] rfl S) (by decide) pd7 [] [] rfl rfl rfl rfl 0 (Nat.le_of_eq rfl) (by decide) (by decide) (by decide) (by decide) 5 30 rfl rfl at_11 14 rfl ?_
  rintro _ T h3 X ⟨rfl, K3, P1, -, S⟩
  show Wk p.tables e below _ (T.setTop (mkF m 14 #[.val (.int y0), .val (.int z0), .val (.int y1), .val (.int z1), .val (.int y2), .val (.int fl), .val (.ref a), .unset, .unset, .unset, .unset, .unset, .unset, .unset, .unset, .unset, .unset, .unset, .unset] [(.int (0 : Int32))]))
  replace S : HS Z h3 n0 a P1 Y0 1 0 ([-1, -1, -1, -1, -1, -1] : List Int32) [] := S
  refine Wk.istore X at_14 16 rfl #[.val (.int y0), .val (.int z0), .val (.int y1), .val (.int z1), .val (.int y2), .val (.int fl), .val (.ref a), .val (.int (0 : Int32)), .unset, .unset, .unset, .unset, .unset, .unset, .unset, .unset, .unset, .unset, .unset] rfl ?_
  refine Wk.aload X at_16 18 rfl rfl rfl ?_
  refine Wk.callV X (t16 hw) (t17 hw) (t19 hw) (t18 hw) (t2 hw) (t20 hw) S.1.1 (con_add1 l Z a0 hw [] h3 n0 a P1 Y0 0 ([-1, -1, -1, -1, -1, -1] : List Int32) [] rfl S) (by decide) pd7 [] [] rfl rfl rfl rfl 0 (Nat.le_of_eq rfl) (by decide) (by decide) (by decide) (by decide) 6 54 rfl rfl at_18 21 rfl ?_
  rintro _ T h4 X ⟨rfl, K4, P2, -, S⟩
  show Wk p.tables e below _ (T.setTop (mkF m 21 #[.val (.int y0), .val (.int z0), .val (.int y1), .val (.int z1), .val (.int y2), .val (.int fl), .val (.ref a), .val (.int (0 : Int32)), .unset, .unset, .unset, .unset, .unset, .unset, .unset, .unset, .unset, .unset, .unset] [(.int (1 : Int32))]))
  replace S : HS Z h4 n0 a P2 Y0 2 0 ([-1, -1, -1, -1, -1, -1, -1, -1, -1, -1, -1, -1] : List Int32) [] := S
  refine Wk.istore X at_21 23 rfl #[.val (.int y0), .val (.int z0), .val (.int y1), .val (.int z1), .val (.int y2), .val (.int fl), .val (.ref a), .val (.int (0 : Int32)), .val (.int (1 : Int32)), .unset, .unset, .unset, .unset, .unset, .unset, .unset, .unset, .unset, .unset] rfl ?_
  refine Wk.iload X at_23 25 rfl rfl ?_
  refine Wk.iconst X at_25 26 rfl (3 : Int32) rfl ?_
  refine Wk.iand X at_26 27 rfl ?_
  refine Wk.istore X at_27 29 rfl #[.val (.int y0), .val (.int z0), .val (.int y1), .val (.int z1), .val (.int y2), .val (.int fl), .val (.ref a), .val (.int (0 : Int32)), .val (.int (1 : Int32)), .val (.int (fl &&& (3 : Int32))), .unset, .unset, .unset, .unset, .unset, .unset, .unset, .unset, .unset] rfl ?_
  refine Wk.iload X at_29 31 rfl rfl ?_
  refine Wk.iconst X at_31 32 rfl (2 : Int32) rfl ?_
  refine Wk.ishr X at_32 33 rfl ?_
  refine Wk.iconst X at_33 34 rfl (1 : Int32) rfl ?_
  refine Wk.iand X at_34 35 rfl ?_
  refine Wk.join (T.setTop (mkF m 43 #[.val (.int y0), .val (.int z0), .val (.int y1), .val (.int z1), .val (.int y2), .val (.int fl), .val (.ref a), .val (.int (0 : Int32)), .val (.int (1 : Int32)), .val (.int (fl &&& (3 : Int32))), .unset, .unset, .unset, .unset, .unset, .unset, .unset, .unset, .unset] [(.int (tw (¬ ((fl >>> ((2 : Int32) &&& 31)) &&& (1 : Int32)) = (0 : Int32))))])) True ?_ ?_
  · intro _
    have ho0 := tw01 (¬ ((fl >>> ((2 : Int32) &&& 31)) &&& (1 : Int32)) = (0 : Int32))
    generalize (tw (¬ ((fl >>> ((2 : Int32) &&& 31)) &&& (1 : Int32)) = (0 : Int32))) = o0 at ho0 ⊢
    refine Wk.istore X at_43 45 rfl #[.val (.int y0), .val (.int z0), .val (.int y1), .val (.int z1), .val (.int y2), .val (.int fl), .val (.ref a), .val (.int (0 : Int32)), .val (.int (1 : Int32)), .val (.int (fl &&& (3 : Int32))), .val (.int o0), .unset, .unset, .unset, .unset, .unset, .unset, .unset, .unset] rfl ?_
    refine Wk.iload X at_45 47 rfl rfl ?_
    refine Wk.iconst X at_47 48 rfl (3 : Int32) rfl ?_
    refine Wk.ishr X at_48 49 rfl ?_
    refine Wk.iconst X at_49 50 rfl (1 : Int32) rfl ?_
    refine Wk.iand X at_50 51 rfl ?_
    refine Wk.join (T.setTop (mkF m 59 #[.val (.int y0), .val (.int z0), .val (.int y1), .val (.int z1), .val (.int y2), .val (.int fl), .val (.ref a), .val (.int (0 : Int32)), .val (.int (1 : Int32)), .val (.int (fl &&& (3 : Int32))), .val (.int o0), .unset, .unset, .unset, .unset, .unset, .unset, .unset, .unset] [(.int (tw (¬ ((fl >>> ((3 : Int32) &&& 31)) &&& (1 : Int32)) = (0 : Int32))))])) True ?_ ?_
    · intro _
      have ho1 := tw01 (¬ ((fl >>> ((3 : Int32) &&& 31)) &&& (1 : Int32)) = (0 : Int32))
      generalize (tw (¬ ((fl >>> ((3 : Int32) &&& 31)) &&& (1 : Int32)) = (0 : Int32))) = o1 at ho1 ⊢
      refine Wk.istore X at_59 61 rfl #[.val (.int y0), .val (.int z0), .val (.int y1), .val (.int z1), .val (.int y2), .val (.int fl), .val (.ref a), .val (.int (0 : Int32)), .val (.int (1 : Int32)), .val (.int (fl &&& (3 : Int32))), .val (.int o0), .val (.int o1), .unset, .unset, .unset, .unset, .unset, .unset, .unset] rfl ?_
      refine Wk.iload X at_61 63 rfl rfl ?_
      refine Wk.iconst X at_63 64 rfl (4 : Int32) rfl ?_
      refine Wk.ishr X at_64 65 rfl ?_
      refine Wk.iconst X at_65 66 rfl (1 : Int32) rfl ?_
      refine Wk.iand X at_66 67 rfl ?_
      refine Wk.join (T.setTop (mkF m 75 #[.val (.int y0), .val (.int z0), .val (.int y1), .val (.int z1), .val (.int y2), .val (.int fl), .val (.ref a), .val (.int (0 : Int32)), .val (.int (1 : Int32)), .val (.int (fl &&& (3 : Int32))), .val (.int o0), .val (.int o1), .unset, .unset, .unset, .unset, .unset, .unset, .unset] [(.int (tw (¬ ((fl >>> ((4 : Int32) &&& 31)) &&& (1 : Int32)) = (0 : Int32))))])) True ?_ ?_
      · intro _
        have ho2 := tw01 (¬ ((fl >>> ((4 : Int32) &&& 31)) &&& (1 : Int32)) = (0 : Int32))
        generalize (tw (¬ ((fl >>> ((4 : Int32) &&& 31)) &&& (1 : Int32)) = (0 : Int32))) = o2 at ho2 ⊢
        refine Wk.istore X at_75 77 rfl #[.val (.int y0), .val (.int z0), .val (.int y1), .val (.int z1), .val (.int y2), .val (.int fl), .val (.ref a), .val (.int (0 : Int32)), .val (.int (1 : Int32)), .val (.int (fl &&& (3 : Int32))), .val (.int o0), .val (.int o1), .val (.int o2), .unset, .unset, .unset, .unset, .unset, .unset] rfl ?_
        refine Wk.bipush X at_77 79 rfl (6 : Int32) rfl ?_
        have hn3 := own_and3 fl
        generalize (fl &&& (3 : Int32)) = n at hn3 ⊢
        show Wk p.tables e below _ (T.setTop (mkF m 79 #[.val (.int y0), .val (.int z0), .val (.int y1), .val (.int z1), .val (.int y2), .val (.int fl), .val (.ref a), .val (.int (0 : Int32)), .val (.int (1 : Int32)), .val (.int n), .val (.int o0), .val (.int o1), .val (.int o2), .unset, .unset, .unset, .unset, .unset, .unset] [(.int (6 : Int32))]))
        refine Wk.newarray (aty := .int) X (t9 hw) at_79 81 rfl 6 rfl 6 (Nat.le_refl _) (by decide) (by decide) (by decide) ?_
        intro T h5 ep gep X E5 A_ep
        have na_ep : a ≠ ep := ne_new (Exa.lt S.1.1) gep
        have nP_ep : P2 ≠ ep := ne_new S.2.2.1.1.lt gep
        have nY_ep : Y0 ≠ ep := ne_new S.2.2.1.2.lt gep
        have n_ep : n0 ≤ ep := nn_new hn (Exa.lt S.1.1) gep
        replace S := S.keep ((Keep.refl _ []).ext E5) nin0 nin0 nin0
        replace A_ep : Arl Z h5 ep .int (([0, 0, 0, 0, 0, 0] : List Int32).map Value.int) := A_ep
        refine Wk.astore X at_81 83 rfl #[.val (.int y0), .val (.int z0), .val (.int y1), .val (.int z1), .val (.int y2), .val (.int fl), .val (.ref a), .val (.int (0 : Int32)), .val (.int (1 : Int32)), .val (.int n), .val (.int o0), .val (.int o1), .val (.int o2), .val (.ref ep), .unset, .unset, .unset, .unset, .unset] rfl rfl ?_
        refine Wk.bipush X at_83 85 rfl (6 : Int32) rfl ?_
        refine Wk.newarray (aty := .int) X (t9 hw) at_85 87 rfl 6 rfl 6 (Nat.le_refl _) (by decide) (by decide) (by decide) ?_
        intro T h6 eq geq X E6 A_eq
        have na_eq : a ≠ eq := ne_new (Exa.lt S.1.1) geq
        have nP_eq : P2 ≠ eq := ne_new S.2.2.1.1.lt geq
        have nY_eq : Y0 ≠ eq := ne_new S.2.2.1.2.lt geq
        have n_eq : n0 ≤ eq := nn_new hn (Exa.lt S.1.1) geq
        have nee : ep ≠ eq := ne_new A_ep.lt geq
        replace A_ep := A_ep.ext E6
        replace S := S.keep ((Keep.refl _ []).ext E6) nin0 nin0 nin0
        replace A_eq : Arl Z h6 eq .int (([0, 0, 0, 0, 0, 0] : List Int32).map Value.int) := A_eq
        refine Wk.astore X at_87 89 rfl #[.val (.int y0), .val (.int z0), .val (.int y1), .val (.int z1), .val (.int y2), .val (.int fl), .val (.ref a), .val (.int (0 : Int32)), .val (.int (1 : Int32)), .val (.int n), .val (.int o0), .val (.int o1), .val (.int o2), .val (.ref ep), .val (.ref eq), .unset, .unset, .unset, .unset] rfl rfl ?_
        refine Wk.iconst X at_89 90 rfl (0 : Int32) rfl ?_
        refine Wk.istore X at_90 92 rfl #[.val (.int y0), .val (.int z0), .val (.int y1), .val (.int z1), .val (.int y2), .val (.int fl), .val (.ref a), .val (.int (0 : Int32)), .val (.int (1 : Int32)), .val (.int n), .val (.int o0), .val (.int o1), .val (.int o2), .val (.ref ep), .val (.ref eq), .val (.int (0 : Int32)), .unset, .unset, .unset] rfl ?_
        refine Wk.iconst X at_92 93 rfl (0 : Int32) rfl ?_
        refine Wk.istore X at_93 95 rfl #[.val (.int y0), .val (.int z0), .val (.int y1), .val (.int z1), .val (.int y2), .val (.int fl), .val (.ref a), .val (.int (0 : Int32)), .val (.int (1 : Int32)), .val (.int n), .val (.int o0), .val (.int o1), .val (.int o2), .val (.ref ep), .val (.ref eq), .val (.int (0 : Int32)), .val (.int (0 : Int32)), .unset, .unset] rfl ?_
        refine Wk.iload X at_95 97 rfl rfl ?_
        refine Wk.iconst X at_97 98 rfl (1 : Int32) rfl ?_
        rcases hn3 with rfl | rfl | rfl | rfl
        · show Wk p.tables e below _ (T.setTop (mkF m 98 #[.val (.int y0), .val (.int z0), .val (.int y1), .val (.int z1), .val (.int y2), .val (.int fl), .val (.ref a), .val (.int (0 : Int32)), .val (.int (1 : Int32)), .val (.int (0 : Int32)), .val (.int o0), .val (.int o1), .val (.int o2), .val (.ref ep), .val (.ref eq), .val (.int (0 : Int32)), .val (.int (0 : Int32)), .unset, .unset] [(.int (1 : Int32)), (.int (0 : Int32))]))
          refine Wk.icmpT X at_98 150 (by decide) (show (0 : Int32) < (1 : Int32) from (by decide)) ?_
          refine Wk.iload X at_150 152 rfl rfl ?_
          refine Wk.iconst X at_152 153 rfl (2 : Int32) rfl ?_
          refine Wk.icmpT X at_153 205 (by decide) (show (0 : Int32) < (2 : Int32) from (by decide)) ?_
          refine Wk.iload X at_205 207 rfl rfl ?_
          refine Wk.iconst X at_207 208 rfl (3 : Int32) rfl ?_
          refine Wk.icmpT X at_208 266 (by decide) (show (0 : Int32) < (3 : Int32) from (by decide)) ?_
          refine Wk.aload X at_266 268 rfl rfl rfl ?_
          refine Wk.iload X at_268 270 rfl rfl ?_
          refine Wk.callV X (t65 hw) (t66 hw) (t68 hw) (t67 hw) (t2 hw) (t69 hw) S.1.1 (con_yah_ l Z a0 hw [] h6 n0 a P2 Y0 2 0 ([-1, -1, -1, -1, -1, -1, -1, -1, -1, -1, -1, -1] : List Int32) ([] : List Int32) 0 0 rfl (by decide) (Nat.le_of_ble_eq_true rfl) rfl  S) (by decide) pd8 [(.int (0 : Int32))] [] rfl rfl rfl rfl 0 (Nat.le_of_eq rfl) (by decide) (by decide) (by decide) (by decide) 9 72 rfl rfl at_270 273 rfl ?_
          rintro _ T h7 X ⟨rp, rfl, -, K, A_rp⟩
          show Wk p.tables e below _ (T.setTop (mkF m 273 #[.val (.int y0), .val (.int z0), .val (.int y1), .val (.int z1), .val (.int y2), .val (.int fl), .val (.ref a), .val (.int (0 : Int32)), .val (.int (1 : Int32)), .val (.int (0 : Int32)), .val (.int o0), .val (.int o1), .val (.int o2), .val (.ref ep), .val (.ref eq), .val (.int (0 : Int32)), .val (.int (0 : Int32)), .unset, .unset] [(.ref rp)]))
          replace A_ep := A_ep.keep K nin0
          replace A_eq := A_eq.keep K nin0
          replace S := S.keep K nin0 nin0 nin0
          refine Wk.astore X at_273 275 rfl #[.val (.int y0), .val (.int z0), .val (.int y1), .val (.int z1), .val (.int y2), .val (.int fl), .val (.ref a), .val (.int (0 : Int32)), .val (.int (1 : Int32)), .val (.int (0 : Int32)), .val (.int o0), .val (.int o1), .val (.int o2), .val (.ref ep), .val (.ref eq), .val (.int (0 : Int32)), .val (.int (0 : Int32)), .val (.ref rp), .unset] rfl rfl ?_
          refine Wk.aload X at_275 277 rfl rfl rfl ?_
          refine Wk.iload X at_277 279 rfl rfl ?_
          refine Wk.callV X (t65 hw) (t66 hw) (t68 hw) (t67 hw) (t2 hw) (t69 hw) S.1.1 (con_yah_ l Z a0 hw [] h7 n0 a P2 Y0 2 0 ([-1, -1, -1, -1, -1, -1, -1, -1, -1, -1, -1, -1] : List Int32) ([] : List Int32) 1 1 rfl (by decide) (Nat.le_of_ble_eq_true rfl) rfl  S) (by decide) pd8 [(.int (1 : Int32))] [] rfl rfl rfl rfl 0 (Nat.le_of_eq rfl) (by decide) (by decide) (by decide) (by decide) 10 78 rfl rfl at_279 282 rfl ?_
          rintro _ T h8 X ⟨rq, rfl, -, K, A_rq⟩
          show Wk p.tables e below _ (T.setTop (mkF m 282 #[.val (.int y0), .val (.int z0), .val (.int y1), .val (.int z1), .val (.int y2), .val (.int fl), .val (.ref a), .val (.int (0 : Int32)), .val (.int (1 : Int32)), .val (.int (0 : Int32)), .val (.int o0), .val (.int o1), .val (.int o2), .val (.ref ep), .val (.ref eq), .val (.int (0 : Int32)), .val (.int (0 : Int32)), .val (.ref rp), .unset] [(.ref rq)]))
          replace A_ep := A_ep.keep K nin0
          replace A_eq := A_eq.keep K nin0
          replace A_rp := A_rp.keep K nin0
          refine Wk.astore X at_282 284 rfl #[.val (.int y0), .val (.int z0), .val (.int y1), .val (.int z1), .val (.int y2), .val (.int fl), .val (.ref a), .val (.int (0 : Int32)), .val (.int (1 : Int32)), .val (.int (0 : Int32)), .val (.int o0), .val (.int o1), .val (.int o2), .val (.ref ep), .val (.ref eq), .val (.int (0 : Int32)), .val (.int (0 : Int32)), .val (.ref rp), .val (.ref rq)] rfl rfl ?_
          refine Wk.aload X at_284 286 rfl rfl rfl ?_
          refine Wk.aload X at_286 288 rfl rfl rfl ?_
          refine Wk.iload X at_288 290 rfl rfl ?_
          refine Wk.callS X (t74 hw) (t75 hw) (t63 hw) (t76 hw) (con_same0 l Z a0 hw [] h8 n0 rp ep (0) (0) (0) (0) (0) (0) A_rp A_ep) (by decide) pd9 [(.ref rp), (.ref ep), (.int (0 : Int32))] [] rfl rfl rfl rfl 0 (Nat.le_of_eq rfl) (by decide) (by decide) (by decide) (by decide) 10 78 rfl rfl at_290 293 rfl ?_
          rintro _ T _ X ⟨rfl, rfl⟩
          show Wk p.tables e below _ (T.setTop (mkF m 293 #[.val (.int y0), .val (.int z0), .val (.int y1), .val (.int z1), .val (.int y2), .val (.int fl), .val (.ref a), .val (.int (0 : Int32)), .val (.int (1 : Int32)), .val (.int (0 : Int32)), .val (.int o0), .val (.int o1), .val (.int o2), .val (.ref ep), .val (.ref eq), .val (.int (0 : Int32)), .val (.int (0 : Int32)), .val (.ref rp), .val (.ref rq)] [(.int (1 : Int32))]))
          refine Wk.ifcF X at_293 296 rfl (show ¬ (1 : Int32) = (0 : Int32) from (by decide)) ?_
          refine Wk.aload X at_296 298 rfl rfl rfl ?_
          refine Wk.aload X at_298 300 rfl rfl rfl ?_
          refine Wk.iload X at_300 302 rfl rfl ?_
          refine Wk.callS X (t74 hw) (t75 hw) (t63 hw) (t76 hw) (con_same0 l Z a0 hw [] h8 n0 rq eq (0) (0) (0) (0) (0) (0) A_rq A_eq) (by decide) pd9 [(.ref rq), (.ref eq), (.int (0 : Int32))] [] rfl rfl rfl rfl 0 (Nat.le_of_eq rfl) (by decide) (by decide) (by decide) (by decide) 10 78 rfl rfl at_302 305 rfl ?_
          rintro _ T _ X ⟨rfl, rfl⟩
          show Wk p.tables e below _ (T.setTop (mkF m 305 #[.val (.int y0), .val (.int z0), .val (.int y1), .val (.int z1), .val (.int y2), .val (.int fl), .val (.ref a), .val (.int (0 : Int32)), .val (.int (1 : Int32)), .val (.int (0 : Int32)), .val (.int o0), .val (.int o1), .val (.int o2), .val (.ref ep), .val (.ref eq), .val (.int (0 : Int32)), .val (.int (0 : Int32)), .val (.ref rp), .val (.ref rq)] [(.int (1 : Int32))]))
          refine Wk.ifcF X at_305 308 rfl (show ¬ (1 : Int32) = (0 : Int32) from (by decide)) ?_
          refine Wk.iconst X at_308 309 rfl (1 : Int32) rfl ?_
          refine Wk.goto X at_309 313 (by decide) ?_
          exact Wk.zreturn X at_313 (by decide) (by decide) (Or.inr rfl) rfl
        · show Wk p.tables e below _ (T.setTop (mkF m 98 #[.val (.int y0), .val (.int z0), .val (.int y1), .val (.int z1), .val (.int y2), .val (.int fl), .val (.ref a), .val (.int (0 : Int32)), .val (.int (1 : Int32)), .val (.int (1 : Int32)), .val (.int o0), .val (.int o1), .val (.int o2), .val (.ref ep), .val (.ref eq), .val (.int (0 : Int32)), .val (.int (0 : Int32)), .unset, .unset] [(.int (1 : Int32)), (.int (1 : Int32))]))
          refine Wk.icmpF X at_98 101 rfl (show ¬ (1 : Int32) < (1 : Int32) from (by decide)) ?_
          refine Wk.aload X at_101 103 rfl rfl rfl ?_
          refine Wk.iload X at_103 105 rfl rfl ?_
          rcases ho0 with rfl | rfl
          · show Wk p.tables e below _ (T.setTop (mkF m 105 #[.val (.int y0), .val (.int z0), .val (.int y1), .val (.int z1), .val (.int y2), .val (.int fl), .val (.ref a), .val (.int (0 : Int32)), .val (.int (1 : Int32)), .val (.int (1 : Int32)), .val (.int (0 : Int32)), .val (.int o1), .val (.int o2), .val (.ref ep), .val (.ref eq), .val (.int (0 : Int32)), .val (.int (0 : Int32)), .unset, .unset] [(.int (0 : Int32)), (.ref a)]))
            refine Wk.ifcT X at_105 113 (by decide) (show (0 : Int32) = (0 : Int32) from (by decide)) ?_
            refine Wk.iload X at_113 115 rfl rfl ?_
            refine Wk.iloadN X at_115 116 rfl rfl ?_
            refine Wk.iloadN X at_116 117 rfl rfl ?_
            refine Wk.callV X (t50 hw) (t51 hw) (t53 hw) (t52 hw) (t2 hw) (t54 hw) S.1.1 (con_addYear0 l Z a0 hw [] h6 n0 a P2 Y0 2 y0 z0 ([-1, -1, -1, -1, -1, -1, -1, -1, -1, -1, -1, -1] : List Int32) ([] : List Int32) 0 0 rfl (by decide) (Nat.le_of_ble_eq_true rfl) (-1) rfl (Or.inl rfl) rfl S) (by decide) pd1 [(.int (0 : Int32)), (.int y0), (.int z0)] [] rfl rfl rfl rfl 0 (Nat.le_of_eq rfl) (by decide) (by decide) (by decide) (by decide) 9 90 rfl rfl at_117 120 rfl ?_
            rintro _ T h7 X ⟨rfl, K, Y1, b1, S⟩
            show Wk p.tables e below _ (T.setTop (mkF m 120 #[.val (.int y0), .val (.int z0), .val (.int y1), .val (.int z1), .val (.int y2), .val (.int fl), .val (.ref a), .val (.int (0 : Int32)), .val (.int (1 : Int32)), .val (.int (1 : Int32)), .val (.int (0 : Int32)), .val (.int o1), .val (.int o2), .val (.ref ep), .val (.ref eq), .val (.int (0 : Int32)), .val (.int (0 : Int32)), .unset, .unset] []))
            rw [lnkP_n, lnkY_n] at S
            replace S : HS Z h7 n0 a P2 Y1 2 1 ([0, 0, -1, -1, -1, -1, -1, -1, -1, -1, -1, -1] : List Int32) ([y0, z0, -1] : List Int32) := S
            replace nY_ep : Y1 ≠ ep := Ne.symm (far A_ep.lt b1)
            replace A_ep := A_ep.keep K (ninS (Ne.symm na_ep) (ninS (Ne.symm nP_ep) nin0))
            replace nY_eq : Y1 ≠ eq := Ne.symm (far A_eq.lt b1)
            replace A_eq := A_eq.keep K (ninS (Ne.symm na_eq) (ninS (Ne.symm nP_eq) nin0))
            refine Wk.iload X at_120 122 rfl rfl ?_
            refine Wk.ifcT X at_122 139 (by decide) (show (0 : Int32) = (0 : Int32) from (by decide)) ?_
            refine Wk.aload X at_139 141 rfl rfl rfl ?_
            refine Wk.iload X at_141 143 rfl rfl ?_
            refine Wk.iloadN X at_143 144 rfl rfl ?_
            refine Wk.iloadN X at_144 145 rfl rfl ?_
            refine Wk.callS X (t61 hw) (t62 hw) (t63 hw) (t64 hw) (con_put0 l Z a0 hw [] h7 n0 ep y0 z0 ([0, 0, 0, 0, 0, 0] : List Int32) rfl n_ep A_ep) (by decide) pd10 [(.ref ep), (.int (0 : Int32)), (.int y0), (.int z0)] [] rfl rfl rfl rfl 0 (Nat.le_of_eq rfl) (by decide) (by decide) (by decide) (by decide) 9 90 rfl rfl at_145 148 rfl ?_
            rintro _ T h8 X ⟨rfl, K, A_ep⟩
            show Wk p.tables e below _ (T.setTop (mkF m 148 #[.val (.int y0), .val (.int z0), .val (.int y1), .val (.int z1), .val (.int y2), .val (.int fl), .val (.ref a), .val (.int (0 : Int32)), .val (.int (1 : Int32)), .val (.int (1 : Int32)), .val (.int (0 : Int32)), .val (.int o1), .val (.int o2), .val (.ref ep), .val (.ref eq), .val (.int (0 : Int32)), .val (.int (0 : Int32)), .unset, .unset] [(.int (2 : Int32))]))
            replace A_ep : Arl Z h8 ep .int (([y0, z0, 0, 0, 0, 0] : List Int32).map Value.int) := A_ep
            replace S := S.keep K (ninS na_ep nin0) (ninS nP_ep nin0) (ninS nY_ep nin0)
            replace A_eq := A_eq.keep K (ninS (Ne.symm nee) nin0)
            refine Wk.istore X at_148 150 rfl #[.val (.int y0), .val (.int z0), .val (.int y1), .val (.int z1), .val (.int y2), .val (.int fl), .val (.ref a), .val (.int (0 : Int32)), .val (.int (1 : Int32)), .val (.int (1 : Int32)), .val (.int (0 : Int32)), .val (.int o1), .val (.int o2), .val (.ref ep), .val (.ref eq), .val (.int (2 : Int32)), .val (.int (0 : Int32)), .unset, .unset] rfl ?_
            refine Wk.iload X at_150 152 rfl rfl ?_
            refine Wk.iconst X at_152 153 rfl (2 : Int32) rfl ?_
            refine Wk.icmpT X at_153 205 (by decide) (show (1 : Int32) < (2 : Int32) from (by decide)) ?_
            refine Wk.iload X at_205 207 rfl rfl ?_
            refine Wk.iconst X at_207 208 rfl (3 : Int32) rfl ?_
            refine Wk.icmpT X at_208 266 (by decide) (show (1 : Int32) < (3 : Int32) from (by decide)) ?_
            refine Wk.aload X at_266 268 rfl rfl rfl ?_
            refine Wk.iload X at_268 270 rfl rfl ?_
            refine Wk.callV X (t65 hw) (t66 hw) (t68 hw) (t67 hw) (t2 hw) (t69 hw) S.1.1 (con_yah_0 l Z a0 hw [] h8 n0 a P2 Y1 2 1 ([0, 0, -1, -1, -1, -1, -1, -1, -1, -1, -1, -1] : List Int32) ([y0, z0, -1] : List Int32) 0 0 rfl (by decide) (Nat.le_of_ble_eq_true rfl) rfl y0 z0 rfl rfl rfl S) (by decide) pd8 [(.int (0 : Int32))] [] rfl rfl rfl rfl 0 (Nat.le_of_eq rfl) (by decide) (by decide) (by decide) (by decide) 10 96 rfl rfl at_270 273 rfl ?_
            rintro _ T h9 X ⟨rp, rfl, -, K, A_rp⟩
            show Wk p.tables e below _ (T.setTop (mkF m 273 #[.val (.int y0), .val (.int z0), .val (.int y1), .val (.int z1), .val (.int y2), .val (.int fl), .val (.ref a), .val (.int (0 : Int32)), .val (.int (1 : Int32)), .val (.int (1 : Int32)), .val (.int (0 : Int32)), .val (.int o1), .val (.int o2), .val (.ref ep), .val (.ref eq), .val (.int (2 : Int32)), .val (.int (0 : Int32)), .unset, .unset] [(.ref rp)]))
            replace A_ep := A_ep.keep K nin0
            replace A_eq := A_eq.keep K nin0
            replace S := S.keep K nin0 nin0 nin0
            refine Wk.astore X at_273 275 rfl #[.val (.int y0), .val (.int z0), .val (.int y1), .val (.int z1), .val (.int y2), .val (.int fl), .val (.ref a), .val (.int (0 : Int32)), .val (.int (1 : Int32)), .val (.int (1 : Int32)), .val (.int (0 : Int32)), .val (.int o1), .val (.int o2), .val (.ref ep), .val (.ref eq), .val (.int (2 : Int32)), .val (.int (0 : Int32)), .val (.ref rp), .unset] rfl rfl ?_
            refine Wk.aload X at_275 277 rfl rfl rfl ?_
            refine Wk.iload X at_277 279 rfl rfl ?_
            refine Wk.callV X (t65 hw) (t66 hw) (t68 hw) (t67 hw) (t2 hw) (t69 hw) S.1.1 (con_yah_ l Z a0 hw [] h9 n0 a P2 Y1 2 1 ([0, 0, -1, -1, -1, -1, -1, -1, -1, -1, -1, -1] : List Int32) ([y0, z0, -1] : List Int32) 1 1 rfl (by decide) (Nat.le_of_ble_eq_true rfl) rfl  S) (by decide) pd8 [(.int (1 : Int32))] [] rfl rfl rfl rfl 0 (Nat.le_of_eq rfl) (by decide) (by decide) (by decide) (by decide) 11 102 rfl rfl at_279 282 rfl ?_
            rintro _ T h10 X ⟨rq, rfl, -, K, A_rq⟩
            show Wk p.tables e below _ (T.setTop (mkF m 282 #[.val (.int y0), .val (.int z0), .val (.int y1), .val (.int z1), .val (.int y2), .val (.int fl), .val (.ref a), .val (.int (0 : Int32)), .val (.int (1 : Int32)), .val (.int (1 : Int32)), .val (.int (0 : Int32)), .val (.int o1), .val (.int o2), .val (.ref ep), .val (.ref eq), .val (.int (2 : Int32)), .val (.int (0 : Int32)), .val (.ref rp), .unset] [(.ref rq)]))
            replace A_ep := A_ep.keep K nin0
            replace A_eq := A_eq.keep K nin0
            replace A_rp := A_rp.keep K nin0
            refine Wk.astore X at_282 284 rfl #[.val (.int y0), .val (.int z0), .val (.int y1), .val (.int z1), .val (.int y2), .val (.int fl), .val (.ref a), .val (.int (0 : Int32)), .val (.int (1 : Int32)), .val (.int (1 : Int32)), .val (.int (0 : Int32)), .val (.int o1), .val (.int o2), .val (.ref ep), .val (.ref eq), .val (.int (2 : Int32)), .val (.int (0 : Int32)), .val (.ref rp), .val (.ref rq)] rfl rfl ?_
            refine Wk.aload X at_284 286 rfl rfl rfl ?_
            refine Wk.aload X at_286 288 rfl rfl rfl ?_
            refine Wk.iload X at_288 290 rfl rfl ?_
            refine Wk.callS X (t74 hw) (t75 hw) (t63 hw) (t76 hw) (con_same2 l Z a0 hw [] h10 n0 rp ep (y0) (z0) (0) (0) (0) (0) A_rp A_ep) (by decide) pd9 [(.ref rp), (.ref ep), (.int (2 : Int32))] [] rfl rfl rfl rfl 0 (Nat.le_of_eq rfl) (by decide) (by decide) (by decide) (by decide) 11 102 rfl rfl at_290 293 rfl ?_
            rintro _ T _ X ⟨rfl, rfl⟩
            show Wk p.tables e below _ (T.setTop (mkF m 293 #[.val (.int y0), .val (.int z0), .val (.int y1), .val (.int z1), .val (.int y2), .val (.int fl), .val (.ref a), .val (.int (0 : Int32)), .val (.int (1 : Int32)), .val (.int (1 : Int32)), .val (.int (0 : Int32)), .val (.int o1), .val (.int o2), .val (.ref ep), .val (.ref eq), .val (.int (2 : Int32)), .val (.int (0 : Int32)), .val (.ref rp), .val (.ref rq)] [(.int (1 : Int32))]))
            refine Wk.ifcF X at_293 296 rfl (show ¬ (1 : Int32) = (0 : Int32) from (by decide)) ?_
            refine Wk.aload X at_296 298 rfl rfl rfl ?_
            refine Wk.aload X at_298 300 rfl rfl rfl ?_
            refine Wk.iload X at_300 302 rfl rfl ?_
            refine Wk.callS X (t74 hw) (t75 hw) (t63 hw) (t76 hw) (con_same0 l Z a0 hw [] h10 n0 rq eq (0) (0) (0) (0) (0) (0) A_rq A_eq) (by decide) pd9 [(.ref rq), (.ref eq), (.int (0 : Int32))] [] rfl rfl rfl rfl 0 (Nat.le_of_eq rfl) (by decide) (by decide) (by decide) (by decide) 11 102 rfl rfl at_302 305 rfl ?_
            rintro _ T _ X ⟨rfl, rfl⟩
            show Wk p.tables e below _ (T.setTop (mkF m 305 #[.val (.int y0), .val (.int z0), .val (.int y1), .val (.int z1), .val (.int y2), .val (.int fl), .val (.ref a), .val (.int (0 : Int32)), .val (.int (1 : Int32)), .val (.int (1 : Int32)), .val (.int (0 : Int32)), .val (.int o1), .val (.int o2), .val (.ref ep), .val (.ref eq), .val (.int (2 : Int32)), .val (.int (0 : Int32)), .val (.ref rp), .val (.ref rq)] [(.int (1 : Int32))]))
            refine Wk.ifcF X at_305 308 rfl (show ¬ (1 : Int32) = (0 : Int32) from (by decide)) ?_
            refine Wk.iconst X at_308 309 rfl (1 : Int32) rfl ?_
            refine Wk.goto X at_309 313 (by decide) ?_
            exact Wk.zreturn X at_313 (by decide) (by decide) (Or.inr rfl) rfl
          · show Wk p.tables e below _ (T.setTop (mkF m 105 #[.val (.int y0), .val (.int z0), .val (.int y1), .val (.int z1), .val (.int y2), .val (.int fl), .val (.ref a), .val (.int (0 : Int32)), .val (.int (1 : Int32)), .val (.int (1 : Int32)), .val (.int (1 : Int32)), .val (.int o1), .val (.int o2), .val (.ref ep), .val (.ref eq), .val (.int (0 : Int32)), .val (.int (0 : Int32)), .unset, .unset] [(.int (1 : Int32)), (.ref a)]))
            refine Wk.ifcF X at_105 108 rfl (show ¬ (1 : Int32) = (0 : Int32) from (by decide)) ?_
            refine Wk.iload X at_108 110 rfl rfl ?_
            refine Wk.goto X at_110 115 (by decide) ?_
            refine Wk.iloadN X at_115 116 rfl rfl ?_
            refine Wk.iloadN X at_116 117 rfl rfl ?_
            refine Wk.callV X (t50 hw) (t51 hw) (t53 hw) (t52 hw) (t2 hw) (t54 hw) S.1.1 (con_addYear0 l Z a0 hw [] h6 n0 a P2 Y0 2 y0 z0 ([-1, -1, -1, -1, -1, -1, -1, -1, -1, -1, -1, -1] : List Int32) ([] : List Int32) 1 1 rfl (by decide) (Nat.le_of_ble_eq_true rfl) (-1) rfl (Or.inl rfl) rfl S) (by decide) pd1 [(.int (1 : Int32)), (.int y0), (.int z0)] [] rfl rfl rfl rfl 0 (Nat.le_of_eq rfl) (by decide) (by decide) (by decide) (by decide) 9 90 rfl rfl at_117 120 rfl ?_
            rintro _ T h7 X ⟨rfl, K, Y1, b1, S⟩
            show Wk p.tables e below _ (T.setTop (mkF m 120 #[.val (.int y0), .val (.int z0), .val (.int y1), .val (.int z1), .val (.int y2), .val (.int fl), .val (.ref a), .val (.int (0 : Int32)), .val (.int (1 : Int32)), .val (.int (1 : Int32)), .val (.int (1 : Int32)), .val (.int o1), .val (.int o2), .val (.ref ep), .val (.ref eq), .val (.int (0 : Int32)), .val (.int (0 : Int32)), .unset, .unset] []))
            rw [lnkP_n, lnkY_n] at S
            replace S : HS Z h7 n0 a P2 Y1 2 1 ([-1, -1, -1, -1, -1, -1, 0, 0, -1, -1, -1, -1] : List Int32) ([y0, z0, -1] : List Int32) := S
            replace nY_ep : Y1 ≠ ep := Ne.symm (far A_ep.lt b1)
            replace A_ep := A_ep.keep K (ninS (Ne.symm na_ep) (ninS (Ne.symm nP_ep) nin0))
            replace nY_eq : Y1 ≠ eq := Ne.symm (far A_eq.lt b1)
            replace A_eq := A_eq.keep K (ninS (Ne.symm na_eq) (ninS (Ne.symm nP_eq) nin0))
            refine Wk.iload X at_120 122 rfl rfl ?_
            refine Wk.ifcF X at_122 125 rfl (show ¬ (1 : Int32) = (0 : Int32) from (by decide)) ?_
            refine Wk.aload X at_125 127 rfl rfl rfl ?_
            refine Wk.iload X at_127 129 rfl rfl ?_
            refine Wk.iloadN X at_129 130 rfl rfl ?_
            refine Wk.iloadN X at_130 131 rfl rfl ?_
            refine Wk.callS X (t61 hw) (t62 hw) (t63 hw) (t64 hw) (con_put0 l Z a0 hw [] h7 n0 eq y0 z0 ([0, 0, 0, 0, 0, 0] : List Int32) rfl n_eq A_eq) (by decide) pd10 [(.ref eq), (.int (0 : Int32)), (.int y0), (.int z0)] [] rfl rfl rfl rfl 0 (Nat.le_of_eq rfl) (by decide) (by decide) (by decide) (by decide) 9 90 rfl rfl at_131 134 rfl ?_
            rintro _ T h8 X ⟨rfl, K, A_eq⟩
            show Wk p.tables e below _ (T.setTop (mkF m 134 #[.val (.int y0), .val (.int z0), .val (.int y1), .val (.int z1), .val (.int y2), .val (.int fl), .val (.ref a), .val (.int (0 : Int32)), .val (.int (1 : Int32)), .val (.int (1 : Int32)), .val (.int (1 : Int32)), .val (.int o1), .val (.int o2), .val (.ref ep), .val (.ref eq), .val (.int (0 : Int32)), .val (.int (0 : Int32)), .unset, .unset] [(.int (2 : Int32))]))
            replace A_eq : Arl Z h8 eq .int (([y0, z0, 0, 0, 0, 0] : List Int32).map Value.int) := A_eq
            replace S := S.keep K (ninS na_eq nin0) (ninS nP_eq nin0) (ninS nY_eq nin0)
            replace A_ep := A_ep.keep K (ninS nee nin0)
            refine Wk.istore X at_134 136 rfl #[.val (.int y0), .val (.int z0), .val (.int y1), .val (.int z1), .val (.int y2), .val (.int fl), .val (.ref a), .val (.int (0 : Int32)), .val (.int (1 : Int32)), .val (.int (1 : Int32)), .val (.int (1 : Int32)), .val (.int o1), .val (.int o2), .val (.ref ep), .val (.ref eq), .val (.int (0 : Int32)), .val (.int (2 : Int32)), .unset, .unset] rfl ?_
            refine Wk.goto X at_136 150 (by decide) ?_
            refine Wk.iload X at_150 152 rfl rfl ?_
            refine Wk.iconst X at_152 153 rfl (2 : Int32) rfl ?_
            refine Wk.icmpT X at_153 205 (by decide) (show (1 : Int32) < (2 : Int32) from (by decide)) ?_
            refine Wk.iload X at_205 207 rfl rfl ?_
            refine Wk.iconst X at_207 208 rfl (3 : Int32) rfl ?_
            refine Wk.icmpT X at_208 266 (by decide) (show (1 : Int32) < (3 : Int32) from (by decide)) ?_
            refine Wk.aload X at_266 268 rfl rfl rfl ?_
            refine Wk.iload X at_268 270 rfl rfl ?_
            refine Wk.callV X (t65 hw) (t66 hw) (t68 hw) (t67 hw) (t2 hw) (t69 hw) S.1.1 (con_yah_ l Z a0 hw [] h8 n0 a P2 Y1 2 1 ([-1, -1, -1, -1, -1, -1, 0, 0, -1, -1, -1, -1] : List Int32) ([y0, z0, -1] : List Int32) 0 0 rfl (by decide) (Nat.le_of_ble_eq_true rfl) rfl  S) (by decide) pd8 [(.int (0 : Int32))] [] rfl rfl rfl rfl 0 (Nat.le_of_eq rfl) (by decide) (by decide) (by decide) (by decide) 10 96 rfl rfl at_270 273 rfl ?_
            rintro _ T h9 X ⟨rp, rfl, -, K, A_rp⟩
            show Wk p.tables e below _ (T.setTop (mkF m 273 #[.val (.int y0), .val (.int z0), .val (.int y1), .val (.int z1), .val (.int y2), .val (.int fl), .val (.ref a), .val (.int (0 : Int32)), .val (.int (1 : Int32)), .val (.int (1 : Int32)), .val (.int (1 : Int32)), .val (.int o1), .val (.int o2), .val (.ref ep), .val (.ref eq), .val (.int (0 : Int32)), .val (.int (2 : Int32)), .unset, .unset] [(.ref rp)]))
            replace A_ep := A_ep.keep K nin0
            replace A_eq := A_eq.keep K nin0
            replace S := S.keep K nin0 nin0 nin0
            refine Wk.astore X at_273 275 rfl #[.val (.int y0), .val (.int z0), .val (.int y1), .val (.int z1), .val (.int y2), .val (.int fl), .val (.ref a), .val (.int (0 : Int32)), .val (.int (1 : Int32)), .val (.int (1 : Int32)), .val (.int (1 : Int32)), .val (.int o1), .val (.int o2), .val (.ref ep), .val (.ref eq), .val (.int (0 : Int32)), .val (.int (2 : Int32)), .val (.ref rp), .unset] rfl rfl ?_
            refine Wk.aload X at_275 277 rfl rfl rfl ?_
            refine Wk.iload X at_277 279 rfl rfl ?_
            refine Wk.callV X (t65 hw) (t66 hw) (t68 hw) (t67 hw) (t2 hw) (t69 hw) S.1.1 (con_yah_0 l Z a0 hw [] h9 n0 a P2 Y1 2 1 ([-1, -1, -1, -1, -1, -1, 0, 0, -1, -1, -1, -1] : List Int32) ([y0, z0, -1] : List Int32) 1 1 rfl (by decide) (Nat.le_of_ble_eq_true rfl) rfl y0 z0 rfl rfl rfl S) (by decide) pd8 [(.int (1 : Int32))] [] rfl rfl rfl rfl 0 (Nat.le_of_eq rfl) (by decide) (by decide) (by decide) (by decide) 11 102 rfl rfl at_279 282 rfl ?_
            rintro _ T h10 X ⟨rq, rfl, -, K, A_rq⟩
            show Wk p.tables e below _ (T.setTop (mkF m 282 #[.val (.int y0), .val (.int z0), .val (.int y1), .val (.int z1), .val (.int y2), .val (.int fl), .val (.ref a), .val (.int (0 : Int32)), .val (.int (1 : Int32)), .val (.int (1 : Int32)), .val (.int (1 : Int32)), .val (.int o1), .val (.int o2), .val (.ref ep), .val (.ref eq), .val (.int (0 : Int32)), .val (.int (2 : Int32)), .val (.ref rp), .unset] [(.ref rq)]))
            replace A_ep := A_ep.keep K nin0
            replace A_eq := A_eq.keep K nin0
            replace A_rp := A_rp.keep K nin0
            refine Wk.astore X at_282 284 rfl #[.val (.int y0), .val (.int z0), .val (.int y1), .val (.int z1), .val (.int y2), .val (.int fl), .val (.ref a), .val (.int (0 : Int32)), .val (.int (1 : Int32)), .val (.int (1 : Int32)), .val (.int (1 : Int32)), .val (.int o1), .val (.int o2), .val (.ref ep), .val (.ref eq), .val (.int (0 : Int32)), .val (.int (2 : Int32)), .val (.ref rp), .val (.ref rq)] rfl rfl ?_
            refine Wk.aload X at_284 286 rfl rfl rfl ?_
            refine Wk.aload X at_286 288 rfl rfl rfl ?_
            refine Wk.iload X at_288 290 rfl rfl ?_
            refine Wk.callS X (t74 hw) (t75 hw) (t63 hw) (t76 hw) (con_same0 l Z a0 hw [] h10 n0 rp ep (0) (0) (0) (0) (0) (0) A_rp A_ep) (by decide) pd9 [(.ref rp), (.ref ep), (.int (0 : Int32))] [] rfl rfl rfl rfl 0 (Nat.le_of_eq rfl) (by decide) (by decide) (by decide) (by decide) 11 102 rfl rfl at_290 293 rfl ?_
            rintro _ T _ X ⟨rfl, rfl⟩
            show Wk p.tables e below _ (T.setTop (mkF m 293 #[.val (.int y0), .val (.int z0), .val (.int y1), .val (.int z1), .val (.int y2), .val (.int fl), .val (.ref a), .val (.int (0 : Int32)), .val (.int (1 : Int32)), .val (.int (1 : Int32)), .val (.int (1 : Int32)), .val (.int o1), .val (.int o2), .val (.ref ep), .val (.ref eq), .val (.int (0 : Int32)), .val (.int (2 : Int32)), .val (.ref rp), .val (.ref rq)] [(.int (1 : Int32))]))
            refine Wk.ifcF X at_293 296 rfl (show ¬ (1 : Int32) = (0 : Int32) from (by decide)) ?_
            refine Wk.aload X at_296 298 rfl rfl rfl ?_
            refine Wk.aload X at_298 300 rfl rfl rfl ?_
            refine Wk.iload X at_300 302 rfl rfl ?_
            refine Wk.callS X (t74 hw) (t75 hw) (t63 hw) (t76 hw) (con_same2 l Z a0 hw [] h10 n0 rq eq (y0) (z0) (0) (0) (0) (0) A_rq A_eq) (by decide) pd9 [(.ref rq), (.ref eq), (.int (2 : Int32))] [] rfl rfl rfl rfl 0 (Nat.le_of_eq rfl) (by decide) (by decide) (by decide) (by decide) 11 102 rfl rfl at_302 305 rfl ?_
            rintro _ T _ X ⟨rfl, rfl⟩
            show Wk p.tables e below _ (T.setTop (mkF m 305 #[.val (.int y0), .val (.int z0), .val (.int y1), .val (.int z1), .val (.int y2), .val (.int fl), .val (.ref a), .val (.int (0 : Int32)), .val (.int (1 : Int32)), .val (.int (1 : Int32)), .val (.int (1 : Int32)), .val (.int o1), .val (.int o2), .val (.ref ep), .val (.ref eq), .val (.int (0 : Int32)), .val (.int (2 : Int32)), .val (.ref rp), .val (.ref rq)] [(.int (1 : Int32))]))
            refine Wk.ifcF X at_305 308 rfl (show ¬ (1 : Int32) = (0 : Int32) from (by decide)) ?_
            refine Wk.iconst X at_308 309 rfl (1 : Int32) rfl ?_
            refine Wk.goto X at_309 313 (by decide) ?_
            exact Wk.zreturn X at_313 (by decide) (by decide) (Or.inr rfl) rfl
        · show Wk p.tables e below _ (T.setTop (mkF m 98 #[.val (.int y0), .val (.int z0), .val (.int y1), .val (.int z1), .val (.int y2), .val (.int fl), .val (.ref a), .val (.int (0 : Int32)), .val (.int (1 : Int32)), .val (.int (2 : Int32)), .val (.int o0), .val (.int o1), .val (.int o2), .val (.ref ep), .val (.ref eq), .val (.int (0 : Int32)), .val (.int (0 : Int32)), .unset, .unset] [(.int (1 : Int32)), (.int (2 : Int32))]))
          refine Wk.icmpF X at_98 101 rfl (show ¬ (2 : Int32) < (1 : Int32) from (by decide)) ?_
          refine Wk.aload X at_101 103 rfl rfl rfl ?_
          refine Wk.iload X at_103 105 rfl rfl ?_
          rcases ho0 with rfl | rfl
          · show Wk p.tables e below _ (T.setTop (mkF m 105 #[.val (.int y0), .val (.int z0), .val (.int y1), .val (.int z1), .val (.int y2), .val (.int fl), .val (.ref a), .val (.int (0 : Int32)), .val (.int (1 : Int32)), .val (.int (2 : Int32)), .val (.int (0 : Int32)), .val (.int o1), .val (.int o2), .val (.ref ep), .val (.ref eq), .val (.int (0 : Int32)), .val (.int (0 : Int32)), .unset, .unset] [(.int (0 : Int32)), (.ref a)]))
            refine Wk.ifcT X at_105 113 (by decide) (show (0 : Int32) = (0 : Int32) from (by decide)) ?_
            refine Wk.iload X at_113 115 rfl rfl ?_
            refine Wk.iloadN X at_115 116 rfl rfl ?_
            refine Wk.iloadN X at_116 117 rfl rfl ?_
            refine Wk.callV X (t50 hw) (t51 hw) (t53 hw) (t52 hw) (t2 hw) (t54 hw) S.1.1 (con_addYear0 l Z a0 hw [] h6 n0 a P2 Y0 2 y0 z0 ([-1, -1, -1, -1, -1, -1, -1, -1, -1, -1, -1, -1] : List Int32) ([] : List Int32) 0 0 rfl (by decide) (Nat.le_of_ble_eq_true rfl) (-1) rfl (Or.inl rfl) rfl S) (by decide) pd1 [(.int (0 : Int32)), (.int y0), (.int z0)] [] rfl rfl rfl rfl 0 (Nat.le_of_eq rfl) (by decide) (by decide) (by decide) (by decide) 9 90 rfl rfl at_117 120 rfl ?_
            rintro _ T h7 X ⟨rfl, K, Y1, b1, S⟩
            show Wk p.tables e below _ (T.setTop (mkF m 120 #[.val (.int y0), .val (.int z0), .val (.int y1), .val (.int z1), .val (.int y2), .val (.int fl), .val (.ref a), .val (.int (0 : Int32)), .val (.int (1 : Int32)), .val (.int (2 : Int32)), .val (.int (0 : Int32)), .val (.int o1), .val (.int o2), .val (.ref ep), .val (.ref eq), .val (.int (0 : Int32)), .val (.int (0 : Int32)), .unset, .unset] []))
            rw [lnkP_n, lnkY_n] at S
            replace S : HS Z h7 n0 a P2 Y1 2 1 ([0, 0, -1, -1, -1, -1, -1, -1, -1, -1, -1, -1] : List Int32) ([y0, z0, -1] : List Int32) := S
            replace nY_ep : Y1 ≠ ep := Ne.symm (far A_ep.lt b1)
            replace A_ep := A_ep.keep K (ninS (Ne.symm na_ep) (ninS (Ne.symm nP_ep) nin0))
            replace nY_eq : Y1 ≠ eq := Ne.symm (far A_eq.lt b1)
            replace A_eq := A_eq.keep K (ninS (Ne.symm na_eq) (ninS (Ne.symm nP_eq) nin0))
            refine Wk.iload X at_120 122 rfl rfl ?_
            refine Wk.ifcT X at_122 139 (by decide) (show (0 : Int32) = (0 : Int32) from (by decide)) ?_
            refine Wk.aload X at_139 141 rfl rfl rfl ?_
            refine Wk.iload X at_141 143 rfl rfl ?_
            refine Wk.iloadN X at_143 144 rfl rfl ?_
            refine Wk.iloadN X at_144 145 rfl rfl ?_
            refine Wk.callS X (t61 hw) (t62 hw) (t63 hw) (t64 hw) (con_put0 l Z a0 hw [] h7 n0 ep y0 z0 ([0, 0, 0, 0, 0, 0] : List Int32) rfl n_ep A_ep) (by decide) pd10 [(.ref ep), (.int (0 : Int32)), (.int y0), (.int z0)] [] rfl rfl rfl rfl 0 (Nat.le_of_eq rfl) (by decide) (by decide) (by decide) (by decide) 9 90 rfl rfl at_145 148 rfl ?_
            rintro _ T h8 X ⟨rfl, K, A_ep⟩
            show Wk p.tables e below _ (T.setTop (mkF m 148 #[.val (.int y0), .val (.int z0), .val (.int y1), .val (.int z1), .val (.int y2), .val (.int fl), .val (.ref a), .val (.int (0 : Int32)), .val (.int (1 : Int32)), .val (.int (2 : Int32)), .val (.int (0 : Int32)), .val (.int o1), .val (.int o2), .val (.ref ep), .val (.ref eq), .val (.int (0 : Int32)), .val (.int (0 : Int32)), .unset, .unset] [(.int (2 : Int32))]))
            replace A_ep : Arl Z h8 ep .int (([y0, z0, 0, 0, 0, 0] : List Int32).map Value.int) := A_ep
            replace S := S.keep K (ninS na_ep nin0) (ninS nP_ep nin0) (ninS nY_ep nin0)
            replace A_eq := A_eq.keep K (ninS (Ne.symm nee) nin0)
            refine Wk.istore X at_148 150 rfl #[.val (.int y0), .val (.int z0), .val (.int y1), .val (.int z1), .val (.int y2), .val (.int fl), .val (.ref a), .val (.int (0 : Int32)), .val (.int (1 : Int32)), .val (.int (2 : Int32)), .val (.int (0 : Int32)), .val (.int o1), .val (.int o2), .val (.ref ep), .val (.ref eq), .val (.int (2 : Int32)), .val (.int (0 : Int32)), .unset, .unset] rfl ?_
            refine Wk.iload X at_150 152 rfl rfl ?_
            refine Wk.iconst X at_152 153 rfl (2 : Int32) rfl ?_
            refine Wk.icmpF X at_153 156 rfl (show ¬ (2 : Int32) < (2 : Int32) from (by decide)) ?_
            refine Wk.aload X at_156 158 rfl rfl rfl ?_
            refine Wk.iload X at_158 160 rfl rfl ?_
            rcases ho1 with rfl | rfl
            · show Wk p.tables e below _ (T.setTop (mkF m 160 #[.val (.int y0), .val (.int z0), .val (.int y1), .val (.int z1), .val (.int y2), .val (.int fl), .val (.ref a), .val (.int (0 : Int32)), .val (.int (1 : Int32)), .val (.int (2 : Int32)), .val (.int (0 : Int32)), .val (.int (0 : Int32)), .val (.int o2), .val (.ref ep), .val (.ref eq), .val (.int (2 : Int32)), .val (.int (0 : Int32)), .unset, .unset] [(.int (0 : Int32)), (.ref a)]))
              refine Wk.ifcT X at_160 168 (by decide) (show (0 : Int32) = (0 : Int32) from (by decide)) ?_
              refine Wk.iload X at_168 170 rfl rfl ?_
              refine Wk.iloadN X at_170 171 rfl rfl ?_
              refine Wk.iloadN X at_171 172 rfl rfl ?_
              refine Wk.callV X (t50 hw) (t51 hw) (t53 hw) (t52 hw) (t2 hw) (t54 hw) S.1.1 (con_addYear1 l Z a0 hw [] h8 n0 a P2 Y1 2 y1 z1 ([0, 0, -1, -1, -1, -1, -1, -1, -1, -1, -1, -1] : List Int32) ([y0, z0, -1] : List Int32) 0 0 rfl (by decide) (Nat.le_of_ble_eq_true rfl) (0) rfl (Or.inr ⟨0, rfl, by decide⟩) rfl S) (by decide) pd1 [(.int (0 : Int32)), (.int y1), (.int z1)] [] rfl rfl rfl rfl 0 (Nat.le_of_eq rfl) (by decide) (by decide) (by decide) (by decide) 10 114 rfl rfl at_172 175 rfl ?_
              rintro _ T h9 X ⟨rfl, K, Y2, b2, S⟩
              show Wk p.tables e below _ (T.setTop (mkF m 175 #[.val (.int y0), .val (.int z0), .val (.int y1), .val (.int z1), .val (.int y2), .val (.int fl), .val (.ref a), .val (.int (0 : Int32)), .val (.int (1 : Int32)), .val (.int (2 : Int32)), .val (.int (0 : Int32)), .val (.int (0 : Int32)), .val (.int o2), .val (.ref ep), .val (.ref eq), .val (.int (2 : Int32)), .val (.int (0 : Int32)), .unset, .unset] []))
              rw [lnkP_s (v := 0) (by decide), lnkY_s (v := 0) (by decide)] at S
              replace S : HS Z h9 n0 a P2 Y2 2 2 ([0, 1, -1, -1, -1, -1, -1, -1, -1, -1, -1, -1] : List Int32) ([y0, z0, 1, y1, z1, -1] : List Int32) := S
              replace nY_ep : Y2 ≠ ep := Ne.symm (far A_ep.lt b2)
              replace A_ep := A_ep.keep K (ninS (Ne.symm na_ep) (ninS (Ne.symm nP_ep) nin0))
              replace nY_eq : Y2 ≠ eq := Ne.symm (far A_eq.lt b2)
              replace A_eq := A_eq.keep K (ninS (Ne.symm na_eq) (ninS (Ne.symm nP_eq) nin0))
              refine Wk.iload X at_175 177 rfl rfl ?_
              refine Wk.ifcT X at_177 194 (by decide) (show (0 : Int32) = (0 : Int32) from (by decide)) ?_
              refine Wk.aload X at_194 196 rfl rfl rfl ?_
              refine Wk.iload X at_196 198 rfl rfl ?_
              refine Wk.iloadN X at_198 199 rfl rfl ?_
              refine Wk.iloadN X at_199 200 rfl rfl ?_
              refine Wk.callS X (t61 hw) (t62 hw) (t63 hw) (t64 hw) (con_put2 l Z a0 hw [] h9 n0 ep y1 z1 ([y0, z0, 0, 0, 0, 0] : List Int32) rfl n_ep A_ep) (by decide) pd10 [(.ref ep), (.int (2 : Int32)), (.int y1), (.int z1)] [] rfl rfl rfl rfl 0 (Nat.le_of_eq rfl) (by decide) (by decide) (by decide) (by decide) 10 114 rfl rfl at_200 203 rfl ?_
              rintro _ T h10 X ⟨rfl, K, A_ep⟩
              show Wk p.tables e below _ (T.setTop (mkF m 203 #[.val (.int y0), .val (.int z0), .val (.int y1), .val (.int z1), .val (.int y2), .val (.int fl), .val (.ref a), .val (.int (0 : Int32)), .val (.int (1 : Int32)), .val (.int (2 : Int32)), .val (.int (0 : Int32)), .val (.int (0 : Int32)), .val (.int o2), .val (.ref ep), .val (.ref eq), .val (.int (2 : Int32)), .val (.int (0 : Int32)), .unset, .unset] [(.int (4 : Int32))]))
              replace A_ep : Arl Z h10 ep .int (([y0, z0, y1, z1, 0, 0] : List Int32).map Value.int) := A_ep
              replace S := S.keep K (ninS na_ep nin0) (ninS nP_ep nin0) (ninS nY_ep nin0)
              replace A_eq := A_eq.keep K (ninS (Ne.symm nee) nin0)
              refine Wk.istore X at_203 205 rfl #[.val (.int y0), .val (.int z0), .val (.int y1), .val (.int z1), .val (.int y2), .val (.int fl), .val (.ref a), .val (.int (0 : Int32)), .val (.int (1 : Int32)), .val (.int (2 : Int32)), .val (.int (0 : Int32)), .val (.int (0 : Int32)), .val (.int o2), .val (.ref ep), .val (.ref eq), .val (.int (4 : Int32)), .val (.int (0 : Int32)), .unset, .unset] rfl ?_
              refine Wk.iload X at_205 207 rfl rfl ?_
              refine Wk.iconst X at_207 208 rfl (3 : Int32) rfl ?_
              refine Wk.icmpT X at_208 266 (by decide) (show (2 : Int32) < (3 : Int32) from (by decide)) ?_
              refine Wk.aload X at_266 268 rfl rfl rfl ?_
              refine Wk.iload X at_268 270 rfl rfl ?_
              refine Wk.callV X (t65 hw) (t66 hw) (t68 hw) (t67 hw) (t2 hw) (t69 hw) S.1.1 (con_yah_01 l Z a0 hw [] h10 n0 a P2 Y2 2 2 ([0, 1, -1, -1, -1, -1, -1, -1, -1, -1, -1, -1] : List Int32) ([y0, z0, 1, y1, z1, -1] : List Int32) 0 0 rfl (by decide) (Nat.le_of_ble_eq_true rfl) rfl y0 z0 rfl rfl rfl y1 z1 rfl rfl rfl S) (by decide) pd8 [(.int (0 : Int32))] [] rfl rfl rfl rfl 0 (Nat.le_of_eq rfl) (by decide) (by decide) (by decide) (by decide) 11 120 rfl rfl at_270 273 rfl ?_
              rintro _ T h11 X ⟨rp, rfl, -, K, A_rp⟩
              show Wk p.tables e below _ (T.setTop (mkF m 273 #[.val (.int y0), .val (.int z0), .val (.int y1), .val (.int z1), .val (.int y2), .val (.int fl), .val (.ref a), .val (.int (0 : Int32)), .val (.int (1 : Int32)), .val (.int (2 : Int32)), .val (.int (0 : Int32)), .val (.int (0 : Int32)), .val (.int o2), .val (.ref ep), .val (.ref eq), .val (.int (4 : Int32)), .val (.int (0 : Int32)), .unset, .unset] [(.ref rp)]))
              replace A_ep := A_ep.keep K nin0
              replace A_eq := A_eq.keep K nin0
              replace S := S.keep K nin0 nin0 nin0
              refine Wk.astore X at_273 275 rfl #[.val (.int y0), .val (.int z0), .val (.int y1), .val (.int z1), .val (.int y2), .val (.int fl), .val (.ref a), .val (.int (0 : Int32)), .val (.int (1 : Int32)), .val (.int (2 : Int32)), .val (.int (0 : Int32)), .val (.int (0 : Int32)), .val (.int o2), .val (.ref ep), .val (.ref eq), .val (.int (4 : Int32)), .val (.int (0 : Int32)), .val (.ref rp), .unset] rfl rfl ?_
              refine Wk.aload X at_275 277 rfl rfl rfl ?_
              refine Wk.iload X at_277 279 rfl rfl ?_
              refine Wk.callV X (t65 hw) (t66 hw) (t68 hw) (t67 hw) (t2 hw) (t69 hw) S.1.1 (con_yah_ l Z a0 hw [] h11 n0 a P2 Y2 2 2 ([0, 1, -1, -1, -1, -1, -1, -1, -1, -1, -1, -1] : List Int32) ([y0, z0, 1, y1, z1, -1] : List Int32) 1 1 rfl (by decide) (Nat.le_of_ble_eq_true rfl) rfl  S) (by decide) pd8 [(.int (1 : Int32))] [] rfl rfl rfl rfl 0 (Nat.le_of_eq rfl) (by decide) (by decide) (by decide) (by decide) 12 126 rfl rfl at_279 282 rfl ?_
              rintro _ T h12 X ⟨rq, rfl, -, K, A_rq⟩
              show Wk p.tables e below _ (T.setTop (mkF m 282 #[.val (.int y0), .val (.int z0), .val (.int y1), .val (.int z1), .val (.int y2), .val (.int fl), .val (.ref a), .val (.int (0 : Int32)), .val (.int (1 : Int32)), .val (.int (2 : Int32)), .val (.int (0 : Int32)), .val (.int (0 : Int32)), .val (.int o2), .val (.ref ep), .val (.ref eq), .val (.int (4 : Int32)), .val (.int (0 : Int32)), .val (.ref rp), .unset] [(.ref rq)]))
              replace A_ep := A_ep.keep K nin0
              replace A_eq := A_eq.keep K nin0
              replace A_rp := A_rp.keep K nin0
              refine Wk.astore X at_282 284 rfl #[.val (.int y0), .val (.int z0), .val (.int y1), .val (.int z1), .val (.int y2), .val (.int fl), .val (.ref a), .val (.int (0 : Int32)), .val (.int (1 : Int32)), .val (.int (2 : Int32)), .val (.int (0 : Int32)), .val (.int (0 : Int32)), .val (.int o2), .val (.ref ep), .val (.ref eq), .val (.int (4 : Int32)), .val (.int (0 : Int32)), .val (.ref rp), .val (.ref rq)] rfl rfl ?_
              refine Wk.aload X at_284 286 rfl rfl rfl ?_
              refine Wk.aload X at_286 288 rfl rfl rfl ?_
              refine Wk.iload X at_288 290 rfl rfl ?_
              refine Wk.callS X (t74 hw) (t75 hw) (t63 hw) (t76 hw) (con_same4 l Z a0 hw [] h12 n0 rp ep (y0) (z0) (y1) (z1) (0) (0) A_rp A_ep) (by decide) pd9 [(.ref rp), (.ref ep), (.int (4 : Int32))] [] rfl rfl rfl rfl 0 (Nat.le_of_eq rfl) (by decide) (by decide) (by decide) (by decide) 12 126 rfl rfl at_290 293 rfl ?_
              rintro _ T _ X ⟨rfl, rfl⟩
              show Wk p.tables e below _ (T.setTop (mkF m 293 #[.val (.int y0), .val (.int z0), .val (.int y1), .val (.int z1), .val (.int y2), .val (.int fl), .val (.ref a), .val (.int (0 : Int32)), .val (.int (1 : Int32)), .val (.int (2 : Int32)), .val (.int (0 : Int32)), .val (.int (0 : Int32)), .val (.int o2), .val (.ref ep), .val (.ref eq), .val (.int (4 : Int32)), .val (.int (0 : Int32)), .val (.ref rp), .val (.ref rq)] [(.int (1 : Int32))]))
              refine Wk.ifcF X at_293 296 rfl (show ¬ (1 : Int32) = (0 : Int32) from (by decide)) ?_
              refine Wk.aload X at_296 298 rfl rfl rfl ?_
              refine Wk.aload X at_298 300 rfl rfl rfl ?_
              refine Wk.iload X at_300 302 rfl rfl ?_
              refine Wk.callS X (t74 hw) (t75 hw) (t63 hw) (t76 hw) (con_same0 l Z a0 hw [] h12 n0 rq eq (0) (0) (0) (0) (0) (0) A_rq A_eq) (by decide) pd9 [(.ref rq), (.ref eq), (.int (0 : Int32))] [] rfl rfl rfl rfl 0 (Nat.le_of_eq rfl) (by decide) (by decide) (by decide) (by decide) 12 126 rfl rfl at_302 305 rfl ?_
              rintro _ T _ X ⟨rfl, rfl⟩
              show Wk p.tables e below _ (T.setTop (mkF m 305 #[.val (.int y0), .val (.int z0), .val (.int y1), .val (.int z1), .val (.int y2), .val (.int fl), .val (.ref a), .val (.int (0 : Int32)), .val (.int (1 : Int32)), .val (.int (2 : Int32)), .val (.int (0 : Int32)), .val (.int (0 : Int32)), .val (.int o2), .val (.ref ep), .val (.ref eq), .val (.int (4 : Int32)), .val (.int (0 : Int32)), .val (.ref rp), .val (.ref rq)] [(.int (1 : Int32))]))
              refine Wk.ifcF X at_305 308 rfl (show ¬ (1 : Int32) = (0 : Int32) from (by decide)) ?_
              refine Wk.iconst X at_308 309 rfl (1 : Int32) rfl ?_
              refine Wk.goto X at_309 313 (by decide) ?_
              exact Wk.zreturn X at_313 (by decide) (by decide) (Or.inr rfl) rfl
            · show Wk p.tables e below _ (T.setTop (mkF m 160 #[.val (.int y0), .val (.int z0), .val (.int y1), .val (.int z1), .val (.int y2), .val (.int fl), .val (.ref a), .val (.int (0 : Int32)), .val (.int (1 : Int32)), .val (.int (2 : Int32)), .val (.int (0 : Int32)), .val (.int (1 : Int32)), .val (.int o2), .val (.ref ep), .val (.ref eq), .val (.int (2 : Int32)), .val (.int (0 : Int32)), .unset, .unset] [(.int (1 : Int32)), (.ref a)]))
              refine Wk.ifcF X at_160 163 rfl (show ¬ (1 : Int32) = (0 : Int32) from (by decide)) ?_
              refine Wk.iload X at_163 165 rfl rfl ?_
              refine Wk.goto X at_165 170 (by decide) ?_
              refine Wk.iloadN X at_170 171 rfl rfl ?_
              refine Wk.iloadN X at_171 172 rfl rfl ?_
              refine Wk.callV X (t50 hw) (t51 hw) (t53 hw) (t52 hw) (t2 hw) (t54 hw) S.1.1 (con_addYear1 l Z a0 hw [] h8 n0 a P2 Y1 2 y1 z1 ([0, 0, -1, -1, -1, -1, -1, -1, -1, -1, -1, -1] : List Int32) ([y0, z0, -1] : List Int32) 1 1 rfl (by decide) (Nat.le_of_ble_eq_true rfl) (-1) rfl (Or.inl rfl) rfl S) (by decide) pd1 [(.int (1 : Int32)), (.int y1), (.int z1)] [] rfl rfl rfl rfl 0 (Nat.le_of_eq rfl) (by decide) (by decide) (by decide) (by decide) 10 114 rfl rfl at_172 175 rfl ?_
              rintro _ T h9 X ⟨rfl, K, Y2, b2, S⟩
              show Wk p.tables e below _ (T.setTop (mkF m 175 #[.val (.int y0), .val (.int z0), .val (.int y1), .val (.int z1), .val (.int y2), .val (.int fl), .val (.ref a), .val (.int (0 : Int32)), .val (.int (1 : Int32)), .val (.int (2 : Int32)), .val (.int (0 : Int32)), .val (.int (1 : Int32)), .val (.int o2), .val (.ref ep), .val (.ref eq), .val (.int (2 : Int32)), .val (.int (0 : Int32)), .unset, .unset] []))
              rw [lnkP_n, lnkY_n] at S
              replace S : HS Z h9 n0 a P2 Y2 2 2 ([0, 0, -1, -1, -1, -1, 1, 1, -1, -1, -1, -1] : List Int32) ([y0, z0, -1, y1, z1, -1] : List Int32) := S
              replace nY_ep : Y2 ≠ ep := Ne.symm (far A_ep.lt b2)
              replace A_ep := A_ep.keep K (ninS (Ne.symm na_ep) (ninS (Ne.symm nP_ep) nin0))
              replace nY_eq : Y2 ≠ eq := Ne.symm (far A_eq.lt b2)
              replace A_eq := A_eq.keep K (ninS (Ne.symm na_eq) (ninS (Ne.symm nP_eq) nin0))
              refine Wk.iload X at_175 177 rfl rfl ?_
              refine Wk.ifcF X at_177 180 rfl (show ¬ (1 : Int32) = (0 : Int32) from (by decide)) ?_
              refine Wk.aload X at_180 182 rfl rfl rfl ?_
              refine Wk.iload X at_182 184 rfl rfl ?_
              refine Wk.iloadN X at_184 185 rfl rfl ?_
              refine Wk.iloadN X at_185 186 rfl rfl ?_
              refine Wk.callS X (t61 hw) (t62 hw) (t63 hw) (t64 hw) (con_put0 l Z a0 hw [] h9 n0 eq y1 z1 ([0, 0, 0, 0, 0, 0] : List Int32) rfl n_eq A_eq) (by decide) pd10 [(.ref eq), (.int (0 : Int32)), (.int y1), (.int z1)] [] rfl rfl rfl rfl 0 (Nat.le_of_eq rfl) (by decide) (by decide) (by decide) (by decide) 10 114 rfl rfl at_186 189 rfl ?_
              rintro _ T h10 X ⟨rfl, K, A_eq⟩
              show Wk p.tables e below _ (T.setTop (mkF m 189 #[.val (.int y0), .val (.int z0), .val (.int y1), .val (.int z1), .val (.int y2), .val (.int fl), .val (.ref a), .val (.int (0 : Int32)), .val (.int (1 : Int32)), .val (.int (2 : Int32)), .val (.int (0 : Int32)), .val (.int (1 : Int32)), .val (.int o2), .val (.ref ep), .val (.ref eq), .val (.int (2 : Int32)), .val (.int (0 : Int32)), .unset, .unset] [(.int (2 : Int32))]))
              replace A_eq : Arl Z h10 eq .int (([y1, z1, 0, 0, 0, 0] : List Int32).map Value.int) := A_eq
              replace S := S.keep K (ninS na_eq nin0) (ninS nP_eq nin0) (ninS nY_eq nin0)
              replace A_ep := A_ep.keep K (ninS nee nin0)
              refine Wk.istore X at_189 191 rfl #[.val (.int y0), .val (.int z0), .val (.int y1), .val (.int z1), .val (.int y2), .val (.int fl), .val (.ref a), .val (.int (0 : Int32)), .val (.int (1 : Int32)), .val (.int (2 : Int32)), .val (.int (0 : Int32)), .val (.int (1 : Int32)), .val (.int o2), .val (.ref ep), .val (.ref eq), .val (.int (2 : Int32)), .val (.int (2 : Int32)), .unset, .unset] rfl ?_
              refine Wk.goto X at_191 205 (by decide) ?_
              refine Wk.iload X at_205 207 rfl rfl ?_
              refine Wk.iconst X at_207 208 rfl (3 : Int32) rfl ?_
              refine Wk.icmpT X at_208 266 (by decide) (show (2 : Int32) < (3 : Int32) from (by decide)) ?_
              refine Wk.aload X at_266 268 rfl rfl rfl ?_
              refine Wk.iload X at_268 270 rfl rfl ?_
              refine Wk.callV X (t65 hw) (t66 hw) (t68 hw) (t67 hw) (t2 hw) (t69 hw) S.1.1 (con_yah_0 l Z a0 hw [] h10 n0 a P2 Y2 2 2 ([0, 0, -1, -1, -1, -1, 1, 1, -1, -1, -1, -1] : List Int32) ([y0, z0, -1, y1, z1, -1] : List Int32) 0 0 rfl (by decide) (Nat.le_of_ble_eq_true rfl) rfl y0 z0 rfl rfl rfl S) (by decide) pd8 [(.int (0 : Int32))] [] rfl rfl rfl rfl 0 (Nat.le_of_eq rfl) (by decide) (by decide) (by decide) (by decide) 11 120 rfl rfl at_270 273 rfl ?_
              rintro _ T h11 X ⟨rp, rfl, -, K, A_rp⟩
              show Wk p.tables e below _ (T.setTop (mkF m 273 #[.val (.int y0), .val (.int z0), .val (.int y1), .val (.int z1), .val (.int y2), .val (.int fl), .val (.ref a), .val (.int (0 : Int32)), .val (.int (1 : Int32)), .val (.int (2 : Int32)), .val (.int (0 : Int32)), .val (.int (1 : Int32)), .val (.int o2), .val (.ref ep), .val (.ref eq), .val (.int (2 : Int32)), .val (.int (2 : Int32)), .unset, .unset] [(.ref rp)]))
              replace A_ep := A_ep.keep K nin0
              replace A_eq := A_eq.keep K nin0
              replace S := S.keep K nin0 nin0 nin0
              refine Wk.astore X at_273 275 rfl #[.val (.int y0), .val (.int z0), .val (.int y1), .val (.int z1), .val (.int y2), .val (.int fl), .val (.ref a), .val (.int (0 : Int32)), .val (.int (1 : Int32)), .val (.int (2 : Int32)), .val (.int (0 : Int32)), .val (.int (1 : Int32)), .val (.int o2), .val (.ref ep), .val (.ref eq), .val (.int (2 : Int32)), .val (.int (2 : Int32)), .val (.ref rp), .unset] rfl rfl ?_
              refine Wk.aload X at_275 277 rfl rfl rfl ?_
              refine Wk.iload X at_277 279 rfl rfl ?_
              refine Wk.callV X (t65 hw) (t66 hw) (t68 hw) (t67 hw) (t2 hw) (t69 hw) S.1.1 (con_yah_1 l Z a0 hw [] h11 n0 a P2 Y2 2 2 ([0, 0, -1, -1, -1, -1, 1, 1, -1, -1, -1, -1] : List Int32) ([y0, z0, -1, y1, z1, -1] : List Int32) 1 1 rfl (by decide) (Nat.le_of_ble_eq_true rfl) rfl y1 z1 rfl rfl rfl S) (by decide) pd8 [(.int (1 : Int32))] [] rfl rfl rfl rfl 0 (Nat.le_of_eq rfl) (by decide) (by decide) (by decide) (by decide) 12 126 rfl rfl at_279 282 rfl ?_
              rintro _ T h12 X ⟨rq, rfl, -, K, A_rq⟩
              show Wk p.tables e below _ (T.setTop (mkF m 282 #[.val (.int y0), .val (.int z0), .val (.int y1), .val (.int z1), .val (.int y2), .val (.int fl), .val (.ref a), .val (.int (0 : Int32)), .val (.int (1 : Int32)), .val (.int (2 : Int32)), .val (.int (0 : Int32)), .val (.int (1 : Int32)), .val (.int o2), .val (.ref ep), .val (.ref eq), .val (.int (2 : Int32)), .val (.int (2 : Int32)), .val (.ref rp), .unset] [(.ref rq)]))
              replace A_ep := A_ep.keep K nin0
              replace A_eq := A_eq.keep K nin0
              replace A_rp := A_rp.keep K nin0
              refine Wk.astore X at_282 284 rfl #[.val (.int y0), .val (.int z0), .val (.int y1), .val (.int z1), .val (.int y2), .val (.int fl), .val (.ref a), .val (.int (0 : Int32)), .val (.int (1 : Int32)), .val (.int (2 : Int32)), .val (.int (0 : Int32)), .val (.int (1 : Int32)), .val (.int o2), .val (.ref ep), .val (.ref eq), .val (.int (2 : Int32)), .val (.int (2 : Int32)), .val (.ref rp), .val (.ref rq)] rfl rfl ?_
              refine Wk.aload X at_284 286 rfl rfl rfl ?_
              refine Wk.aload X at_286 288 rfl rfl rfl ?_
              refine Wk.iload X at_288 290 rfl rfl ?_
              refine Wk.callS X (t74 hw) (t75 hw) (t63 hw) (t76 hw) (con_same2 l Z a0 hw [] h12 n0 rp ep (y0) (z0) (0) (0) (0) (0) A_rp A_ep) (by decide) pd9 [(.ref rp), (.ref ep), (.int (2 : Int32))] [] rfl rfl rfl rfl 0 (Nat.le_of_eq rfl) (by decide) (by decide) (by decide) (by decide) 12 126 rfl rfl at_290 293 rfl ?_
              rintro _ T _ X ⟨rfl, rfl⟩
              show Wk p.tables e below _ (T.setTop (mkF m 293 #[.val (.int y0), .val (.int z0), .val (.int y1), .val (.int z1), .val (.int y2), .val (.int fl), .val (.ref a), .val (.int (0 : Int32)), .val (.int (1 : Int32)), .val (.int (2 : Int32)), .val (.int (0 : Int32)), .val (.int (1 : Int32)), .val (.int o2), .val (.ref ep), .val (.ref eq), .val (.int (2 : Int32)), .val (.int (2 : Int32)), .val (.ref rp), .val (.ref rq)] [(.int (1 : Int32))]))
              refine Wk.ifcF X at_293 296 rfl (show ¬ (1 : Int32) = (0 : Int32) from (by decide)) ?_
              refine Wk.aload X at_296 298 rfl rfl rfl ?_
              refine Wk.aload X at_298 300 rfl rfl rfl ?_
              refine Wk.iload X at_300 302 rfl rfl ?_
              refine Wk.callS X (t74 hw) (t75 hw) (t63 hw) (t76 hw) (con_same2 l Z a0 hw [] h12 n0 rq eq (y1) (z1) (0) (0) (0) (0) A_rq A_eq) (by decide) pd9 [(.ref rq), (.ref eq), (.int (2 : Int32))] [] rfl rfl rfl rfl 0 (Nat.le_of_eq rfl) (by decide) (by decide) (by decide) (by decide) 12 126 rfl rfl at_302 305 rfl ?_
              rintro _ T _ X ⟨rfl, rfl⟩
              show Wk p.tables e below _ (T.setTop (mkF m 305 #[.val (.int y0), .val (.int z0), .val (.int y1), .val (.int z1), .val (.int y2), .val (.int fl), .val (.ref a), .val (.int (0 : Int32)), .val (.int (1 : Int32)), .val (.int (2 : Int32)), .val (.int (0 : Int32)), .val (.int (1 : Int32)), .val (.int o2), .val (.ref ep), .val (.ref eq), .val (.int (2 : Int32)), .val (.int (2 : Int32)), .val (.ref rp), .val (.ref rq)] [(.int (1 : Int32))]))
              refine Wk.ifcF X at_305 308 rfl (show ¬ (1 : Int32) = (0 : Int32) from (by decide)) ?_
              refine Wk.iconst X at_308 309 rfl (1 : Int32) rfl ?_
              refine Wk.goto X at_309 313 (by decide) ?_
              exact Wk.zreturn X at_313 (by decide) (by decide) (Or.inr rfl) rfl
          · show Wk p.tables e below _ (T.setTop (mkF m 105 #[.val (.int y0), .val (.int z0), .val (.int y1), .val (.int z1), .val (.int y2), .val (.int fl), .val (.ref a), .val (.int (0 : Int32)), .val (.int (1 : Int32)), .val (.int (2 : Int32)), .val (.int (1 : Int32)), .val (.int o1), .val (.int o2), .val (.ref ep), .val (.ref eq), .val (.int (0 : Int32)), .val (.int (0 : Int32)), .unset, .unset] [(.int (1 : Int32)), (.ref a)]))
            refine Wk.ifcF X at_105 108 rfl (show ¬ (1 : Int32) = (0 : Int32) from (by decide)) ?_
            refine Wk.iload X at_108 110 rfl rfl ?_
            refine Wk.goto X at_110 115 (by decide) ?_
            refine Wk.iloadN X at_115 116 rfl rfl ?_
            refine Wk.iloadN X at_116 117 rfl rfl ?_
            refine Wk.callV X (t50 hw) (t51 hw) (t53 hw) (t52 hw) (t2 hw) (t54 hw) S.1.1 (con_addYear0 l Z a0 hw [] h6 n0 a P2 Y0 2 y0 z0 ([-1, -1, -1, -1, -1, -1, -1, -1, -1, -1, -1, -1] : List Int32) ([] : List Int32) 1 1 rfl (by decide) (Nat.le_of_ble_eq_true rfl) (-1) rfl (Or.inl rfl) rfl S) (by decide) pd1 [(.int (1 : Int32)), (.int y0), (.int z0)] [] rfl rfl rfl rfl 0 (Nat.le_of_eq rfl) (by decide) (by decide) (by decide) (by decide) 9 90 rfl rfl at_117 120 rfl ?_
            rintro _ T h7 X ⟨rfl, K, Y1, b1, S⟩
            show Wk p.tables e below _ (T.setTop (mkF m 120 #[.val (.int y0), .val (.int z0), .val (.int y1), .val (.int z1), .val (.int y2), .val (.int fl), .val (.ref a), .val (.int (0 : Int32)), .val (.int (1 : Int32)), .val (.int (2 : Int32)), .val (.int (1 : Int32)), .val (.int o1), .val (.int o2), .val (.ref ep), .val (.ref eq), .val (.int (0 : Int32)), .val (.int (0 : Int32)), .unset, .unset] []))
            rw [lnkP_n, lnkY_n] at S
            replace S : HS Z h7 n0 a P2 Y1 2 1 ([-1, -1, -1, -1, -1, -1, 0, 0, -1, -1, -1, -1] : List Int32) ([y0, z0, -1] : List Int32) := S
            replace nY_ep : Y1 ≠ ep := Ne.symm (far A_ep.lt b1)
            replace A_ep := A_ep.keep K (ninS (Ne.symm na_ep) (ninS (Ne.symm nP_ep) nin0))
            replace nY_eq : Y1 ≠ eq := Ne.symm (far A_eq.lt b1)
            replace A_eq := A_eq.keep K (ninS (Ne.symm na_eq) (ninS (Ne.symm nP_eq) nin0))
            refine Wk.iload X at_120 122 rfl rfl ?_
            refine Wk.ifcF X at_122 125 rfl (show ¬ (1 : Int32) = (0 : Int32) from (by decide)) ?_
            refine Wk.aload X at_125 127 rfl rfl rfl ?_
            refine Wk.iload X at_127 129 rfl rfl ?_
            refine Wk.iloadN X at_129 130 rfl rfl ?_
            refine Wk.iloadN X at_130 131 rfl rfl ?_
            refine Wk.callS X (t61 hw) (t62 hw) (t63 hw) (t64 hw) (con_put0 l Z a0 hw [] h7 n0 eq y0 z0 ([0, 0, 0, 0, 0, 0] : List Int32) rfl n_eq A_eq) (by decide) pd10 [(.ref eq), (.int (0 : Int32)), (.int y0), (.int z0)] [] rfl rfl rfl rfl 0 (Nat.le_of_eq rfl) (by decide) (by decide) (by decide) (by decide) 9 90 rfl rfl at_131 134 rfl ?_
            rintro _ T h8 X ⟨rfl, K, A_eq⟩
            show Wk p.tables e below _ (T.setTop (mkF m 134 #[.val (.int y0), .val (.int z0), .val (.int y1), .val (.int z1), .val (.int y2), .val (.int fl), .val (.ref a), .val (.int (0 : Int32)), .val (.int (1 : Int32)), .val (.int (2 : Int32)), .val (.int (1 : Int32)), .val (.int o1), .val (.int o2), .val (.ref ep), .val (.ref eq), .val (.int (0 : Int32)), .val (.int (0 : Int32)), .unset, .unset] [(.int (2 : Int32))]))
            replace A_eq : Arl Z h8 eq .int (([y0, z0, 0, 0, 0, 0] : List Int32).map Value.int) := A_eq
            replace S := S.keep K (ninS na_eq nin0) (ninS nP_eq nin0) (ninS nY_eq nin0)
            replace A_ep := A_ep.keep K (ninS nee nin0)
            refine Wk.istore X at_134 136 rfl #[.val (.int y0), .val (.int z0), .val (.int y1), .val (.int z1), .val (.int y2), .val (.int fl), .val (.ref a), .val (.int (0 : Int32)), .val (.int (1 : Int32)), .val (.int (2 : Int32)), .val (.int (1 : Int32)), .val (.int o1), .val (.int o2), .val (.ref ep), .val (.ref eq), .val (.int (0 : Int32)), .val (.int (2 : Int32)), .unset, .unset] rfl ?_
            refine Wk.goto X at_136 150 (by decide) ?_
            refine Wk.iload X at_150 152 rfl rfl ?_
            refine Wk.iconst X at_152 153 rfl (2 : Int32) rfl ?_
            refine Wk.icmpF X at_153 156 rfl (show ¬ (2 : Int32) < (2 : Int32) from (by decide)) ?_
            refine Wk.aload X at_156 158 rfl rfl rfl ?_
            refine Wk.iload X at_158 160 rfl rfl ?_
            rcases ho1 with rfl | rfl
            · show Wk p.tables e below _ (T.setTop (mkF m 160 #[.val (.int y0), .val (.int z0), .val (.int y1), .val (.int z1), .val (.int y2), .val (.int fl), .val (.ref a), .val (.int (0 : Int32)), .val (.int (1 : Int32)), .val (.int (2 : Int32)), .val (.int (1 : Int32)), .val (.int (0 : Int32)), .val (.int o2), .val (.ref ep), .val (.ref eq), .val (.int (0 : Int32)), .val (.int (2 : Int32)), .unset, .unset] [(.int (0 : Int32)), (.ref a)]))
              refine Wk.ifcT X at_160 168 (by decide) (show (0 : Int32) = (0 : Int32) from (by decide)) ?_
              refine Wk.iload X at_168 170 rfl rfl ?_
              refine Wk.iloadN X at_170 171 rfl rfl ?_
              refine Wk.iloadN X at_171 172 rfl rfl ?_
              refine Wk.callV X (t50 hw) (t51 hw) (t53 hw) (t52 hw) (t2 hw) (t54 hw) S.1.1 (con_addYear1 l Z a0 hw [] h8 n0 a P2 Y1 2 y1 z1 ([-1, -1, -1, -1, -1, -1, 0, 0, -1, -1, -1, -1] : List Int32) ([y0, z0, -1] : List Int32) 0 0 rfl (by decide) (Nat.le_of_ble_eq_true rfl) (-1) rfl (Or.inl rfl) rfl S) (by decide) pd1 [(.int (0 : Int32)), (.int y1), (.int z1)] [] rfl rfl rfl rfl 0 (Nat.le_of_eq rfl) (by decide) (by decide) (by decide) (by decide) 10 114 rfl rfl at_172 175 rfl ?_
              rintro _ T h9 X ⟨rfl, K, Y2, b2, S⟩
              show Wk p.tables e below _ (T.setTop (mkF m 175 #[.val (.int y0), .val (.int z0), .val (.int y1), .val (.int z1), .val (.int y2), .val (.int fl), .val (.ref a), .val (.int (0 : Int32)), .val (.int (1 : Int32)), .val (.int (2 : Int32)), .val (.int (1 : Int32)), .val (.int (0 : Int32)), .val (.int o2), .val (.ref ep), .val (.ref eq), .val (.int (0 : Int32)), .val (.int (2 : Int32)), .unset, .unset] []))
              rw [lnkP_n, lnkY_n] at S
              replace S : HS Z h9 n0 a P2 Y2 2 2 ([1, 1, -1, -1, -1, -1, 0, 0, -1, -1, -1, -1] : List Int32) ([y0, z0, -1, y1, z1, -1] : List Int32) := S
              replace nY_ep : Y2 ≠ ep := Ne.symm (far A_ep.lt b2)
              replace A_ep := A_ep.keep K (ninS (Ne.symm na_ep) (ninS (Ne.symm nP_ep) nin0))
              replace nY_eq : Y2 ≠ eq := Ne.symm (far A_eq.lt b2)
              replace A_eq := A_eq.keep K (ninS (Ne.symm na_eq) (ninS (Ne.symm nP_eq) nin0))
              refine Wk.iload X at_175 177 rfl rfl ?_
              refine Wk.ifcT X at_177 194 (by decide) (show (0 : Int32) = (0 : Int32) from (by decide)) ?_
              refine Wk.aload X at_194 196 rfl rfl rfl ?_
              refine Wk.iload X at_196 198 rfl rfl ?_
              refine Wk.iloadN X at_198 199 rfl rfl ?_
              refine Wk.iloadN X at_199 200 rfl rfl ?_
              refine Wk.callS X (t61 hw) (t62 hw) (t63 hw) (t64 hw) (con_put0 l Z a0 hw [] h9 n0 ep y1 z1 ([0, 0, 0, 0, 0, 0] : List Int32) rfl n_ep A_ep) (by decide) pd10 [(.ref ep), (.int (0 : Int32)), (.int y1), (.int z1)] [] rfl rfl rfl rfl 0 (Nat.le_of_eq rfl) (by decide) (by decide) (by decide) (by decide) 10 114 rfl rfl at_200 203 rfl ?_
              rintro _ T h10 X ⟨rfl, K, A_ep⟩
              show Wk p.tables e below _ (T.setTop (mkF m 203 #[.val (.int y0), .val (.int z0), .val (.int y1), .val (.int z1), .val (.int y2), .val (.int fl), .val (.ref a), .val (.int (0 : Int32)), .val (.int (1 : Int32)), .val (.int (2 : Int32)), .val (.int (1 : Int32)), .val (.int (0 : Int32)), .val (.int o2), .val (.ref ep), .val (.ref eq), .val (.int (0 : Int32)), .val (.int (2 : Int32)), .unset, .unset] [(.int (2 : Int32))]))
              replace A_ep : Arl Z h10 ep .int (([y1, z1, 0, 0, 0, 0] : List Int32).map Value.int) := A_ep
              replace S := S.keep K (ninS na_ep nin0) (ninS nP_ep nin0) (ninS nY_ep nin0)
              replace A_eq := A_eq.keep K (ninS (Ne.symm nee) nin0)
              refine Wk.istore X at_203 205 rfl #[.val (.int y0), .val (.int z0), .val (.int y1), .val (.int z1), .val (.int y2), .val (.int fl), .val (.ref a), .val (.int (0 : Int32)), .val (.int (1 : Int32)), .val (.int (2 : Int32)), .val (.int (1 : Int32)), .val (.int (0 : Int32)), .val (.int o2), .val (.ref ep), .val (.ref eq), .val (.int (2 : Int32)), .val (.int (2 : Int32)), .unset, .unset] rfl ?_
              refine Wk.iload X at_205 207 rfl rfl ?_
              refine Wk.iconst X at_207 208 rfl (3 : Int32) rfl ?_
              refine Wk.icmpT X at_208 266 (by decide) (show (2 : Int32) < (3 : Int32) from (by decide)) ?_
              refine Wk.aload X at_266 268 rfl rfl rfl ?_
              refine Wk.iload X at_268 270 rfl rfl ?_
              refine Wk.callV X (t65 hw) (t66 hw) (t68 hw) (t67 hw) (t2 hw) (t69 hw) S.1.1 (con_yah_1 l Z a0 hw [] h10 n0 a P2 Y2 2 2 ([1, 1, -1, -1, -1, -1, 0, 0, -1, -1, -1, -1] : List Int32) ([y0, z0, -1, y1, z1, -1] : List Int32) 0 0 rfl (by decide) (Nat.le_of_ble_eq_true rfl) rfl y1 z1 rfl rfl rfl S) (by decide) pd8 [(.int (0 : Int32))] [] rfl rfl rfl rfl 0 (Nat.le_of_eq rfl) (by decide) (by decide) (by decide) (by decide) 11 120 rfl rfl at_270 273 rfl ?_
              rintro _ T h11 X ⟨rp, rfl, -, K, A_rp⟩
              show Wk p.tables e below _ (T.setTop (mkF m 273 #[.val (.int y0), .val (.int z0), .val (.int y1), .val (.int z1), .val (.int y2), .val (.int fl), .val (.ref a), .val (.int (0 : Int32)), .val (.int (1 : Int32)), .val (.int (2 : Int32)), .val (.int (1 : Int32)), .val (.int (0 : Int32)), .val (.int o2), .val (.ref ep), .val (.ref eq), .val (.int (2 : Int32)), .val (.int (2 : Int32)), .unset, .unset] [(.ref rp)]))
              replace A_ep := A_ep.keep K nin0
              replace A_eq := A_eq.keep K nin0
              replace S := S.keep K nin0 nin0 nin0
              refine Wk.astore X at_273 275 rfl #[.val (.int y0), .val (.int z0), .val (.int y1), .val (.int z1), .val (.int y2), .val (.int fl), .val (.ref a), .val (.int (0 : Int32)), .val (.int (1 : Int32)), .val (.int (2 : Int32)), .val (.int (1 : Int32)), .val (.int (0 : Int32)), .val (.int o2), .val (.ref ep), .val (.ref eq), .val (.int (2 : Int32)), .val (.int (2 : Int32)), .val (.ref rp), .unset] rfl rfl ?_
              refine Wk.aload X at_275 277 rfl rfl rfl ?_
              refine Wk.iload X at_277 279 rfl rfl ?_
              refine Wk.callV X (t65 hw) (t66 hw) (t68 hw) (t67 hw) (t2 hw) (t69 hw) S.1.1 (con_yah_0 l Z a0 hw [] h11 n0 a P2 Y2 2 2 ([1, 1, -1, -1, -1, -1, 0, 0, -1, -1, -1, -1] : List Int32) ([y0, z0, -1, y1, z1, -1] : List Int32) 1 1 rfl (by decide) (Nat.le_of_ble_eq_true rfl) rfl y0 z0 rfl rfl rfl S) (by decide) pd8 [(.int (1 : Int32))] [] rfl rfl rfl rfl 0 (Nat.le_of_eq rfl) (by decide) (by decide) (by decide) (by decide) 12 126 rfl rfl at_279 282 rfl ?_
              rintro _ T h12 X ⟨rq, rfl, -, K, A_rq⟩
              show Wk p.tables e below _ (T.setTop (mkF m 282 #[.val (.int y0), .val (.int z0), .val (.int y1), .val (.int z1), .val (.int y2), .val (.int fl), .val (.ref a), .val (.int (0 : Int32)), .val (.int (1 : Int32)), .val (.int (2 : Int32)), .val (.int (1 : Int32)), .val (.int (0 : Int32)), .val (.int o2), .val (.ref ep), .val (.ref eq), .val (.int (2 : Int32)), .val (.int (2 : Int32)), .val (.ref rp), .unset] [(.ref rq)]))
              replace A_ep := A_ep.keep K nin0
              replace A_eq := A_eq.keep K nin0
              replace A_rp := A_rp.keep K nin0
              refine Wk.astore X at_282 284 rfl #[.val (.int y0), .val (.int z0), .val (.int y1), .val (.int z1), .val (.int y2), .val (.int fl), .val (.ref a), .val (.int (0 : Int32)), .val (.int (1 : Int32)), .val (.int (2 : Int32)), .val (.int (1 : Int32)), .val (.int (0 : Int32)), .val (.int o2), .val (.ref ep), .val (.ref eq), .val (.int (2 : Int32)), .val (.int (2 : Int32)), .val (.ref rp), .val (.ref rq)] rfl rfl ?_
              refine Wk.aload X at_284 286 rfl rfl rfl ?_
              refine Wk.aload X at_286 288 rfl rfl rfl ?_
              refine Wk.iload X at_288 290 rfl rfl ?_
              refine Wk.callS X (t74 hw) (t75 hw) (t63 hw) (t76 hw) (con_same2 l Z a0 hw [] h12 n0 rp ep (y1) (z1) (0) (0) (0) (0) A_rp A_ep) (by decide) pd9 [(.ref rp), (.ref ep), (.int (2 : Int32))] [] rfl rfl rfl rfl 0 (Nat.le_of_eq rfl) (by decide) (by decide) (by decide) (by decide) 12 126 rfl rfl at_290 293 rfl ?_
              rintro _ T _ X ⟨rfl, rfl⟩
              show Wk p.tables e below _ (T.setTop (mkF m 293 #[.val (.int y0), .val (.int z0), .val (.int y1), .val (.int z1), .val (.int y2), .val (.int fl), .val (.ref a), .val (.int (0 : Int32)), .val (.int (1 : Int32)), .val (.int (2 : Int32)), .val (.int (1 : Int32)), .val (.int (0 : Int32)), .val (.int o2), .val (.ref ep), .val (.ref eq), .val (.int (2 : Int32)), .val (.int (2 : Int32)), .val (.ref rp), .val (.ref rq)] [(.int (1 : Int32))]))
              refine Wk.ifcF X at_293 296 rfl (show ¬ (1 : Int32) = (0 : Int32) from (by decide)) ?_
              refine Wk.aload X at_296 298 rfl rfl rfl ?_
              refine Wk.aload X at_298 300 rfl rfl rfl ?_
              refine Wk.iload X at_300 302 rfl rfl ?_
              refine Wk.callS X (t74 hw) (t75 hw) (t63 hw) (t76 hw) (con_same2 l Z a0 hw [] h12 n0 rq eq (y0) (z0) (0) (0) (0) (0) A_rq A_eq) (by decide) pd9 [(.ref rq), (.ref eq), (.int (2 : Int32))] [] rfl rfl rfl rfl 0 (Nat.le_of_eq rfl) (by decide) (by decide) (by decide) (by decide) 12 126 rfl rfl at_302 305 rfl ?_
              rintro _ T _ X ⟨rfl, rfl⟩
              show Wk p.tables e below _ (T.setTop (mkF m 305 #[.val (.int y0), .val (.int z0), .val (.int y1), .val (.int z1), .val (.int y2), .val (.int fl), .val (.ref a), .val (.int (0 : Int32)), .val (.int (1 : Int32)), .val (.int (2 : Int32)), .val (.int (1 : Int32)), .val (.int (0 : Int32)), .val (.int o2), .val (.ref ep), .val (.ref eq), .val (.int (2 : Int32)), .val (.int (2 : Int32)), .val (.ref rp), .val (.ref rq)] [(.int (1 : Int32))]))
              refine Wk.ifcF X at_305 308 rfl (show ¬ (1 : Int32) = (0 : Int32) from (by decide)) ?_
              refine Wk.iconst X at_308 309 rfl (1 : Int32) rfl ?_
              refine Wk.goto X at_309 313 (by decide) ?_
              exact Wk.zreturn X at_313 (by decide) (by decide) (Or.inr rfl) rfl
            · show Wk p.tables e below _ (T.setTop (mkF m 160 #[.val (.int y0), .val (.int z0), .val (.int y1), .val (.int z1), .val (.int y2), .val (.int fl), .val (.ref a), .val (.int (0 : Int32)), .val (.int (1 : Int32)), .val (.int (2 : Int32)), .val (.int (1 : Int32)), .val (.int (1 : Int32)), .val (.int o2), .val (.ref ep), .val (.ref eq), .val (.int (0 : Int32)), .val (.int (2 : Int32)), .unset, .unset] [(.int (1 : Int32)), (.ref a)]))
              refine Wk.ifcF X at_160 163 rfl (show ¬ (1 : Int32) = (0 : Int32) from (by decide)) ?_
              refine Wk.iload X at_163 165 rfl rfl ?_
              refine Wk.goto X at_165 170 (by decide) ?_
              refine Wk.iloadN X at_170 171 rfl rfl ?_
              refine Wk.iloadN X at_171 172 rfl rfl ?_
              refine Wk.callV X (t50 hw) (t51 hw) (t53 hw) (t52 hw) (t2 hw) (t54 hw) S.1.1 (con_addYear1 l Z a0 hw [] h8 n0 a P2 Y1 2 y1 z1 ([-1, -1, -1, -1, -1, -1, 0, 0, -1, -1, -1, -1] : List Int32) ([y0, z0, -1] : List Int32) 1 1 rfl (by decide) (Nat.le_of_ble_eq_true rfl) (0) rfl (Or.inr ⟨0, rfl, by decide⟩) rfl S) (by decide) pd1 [(.int (1 : Int32)), (.int y1), (.int z1)] [] rfl rfl rfl rfl 0 (Nat.le_of_eq rfl) (by decide) (by decide) (by decide) (by decide) 10 114 rfl rfl at_172 175 rfl ?_
              rintro _ T h9 X ⟨rfl, K, Y2, b2, S⟩
              show Wk p.tables e below _ (T.setTop (mkF m 175 #[.val (.int y0), .val (.int z0), .val (.int y1), .val (.int z1), .val (.int y2), .val (.int fl), .val (.ref a), .val (.int (0 : Int32)), .val (.int (1 : Int32)), .val (.int (2 : Int32)), .val (.int (1 : Int32)), .val (.int (1 : Int32)), .val (.int o2), .val (.ref ep), .val (.ref eq), .val (.int (0 : Int32)), .val (.int (2 : Int32)), .unset, .unset] []))
              rw [lnkP_s (v := 0) (by decide), lnkY_s (v := 0) (by decide)] at S
              replace S : HS Z h9 n0 a P2 Y2 2 2 ([-1, -1, -1, -1, -1, -1, 0, 1, -1, -1, -1, -1] : List Int32) ([y0, z0, 1, y1, z1, -1] : List Int32) := S
              replace nY_ep : Y2 ≠ ep := Ne.symm (far A_ep.lt b2)
              replace A_ep := A_ep.keep K (ninS (Ne.symm na_ep) (ninS (Ne.symm nP_ep) nin0))
              replace nY_eq : Y2 ≠ eq := Ne.symm (far A_eq.lt b2)
              replace A_eq := A_eq.keep K (ninS (Ne.symm na_eq) (ninS (Ne.symm nP_eq) nin0))
              refine Wk.iload X at_175 177 rfl rfl ?_
              refine Wk.ifcF X at_177 180 rfl (show ¬ (1 : Int32) = (0 : Int32) from (by decide)) ?_
              refine Wk.aload X at_180 182 rfl rfl rfl ?_
              refine Wk.iload X at_182 184 rfl rfl ?_
              refine Wk.iloadN X at_184 185 rfl rfl ?_
              refine Wk.iloadN X at_185 186 rfl rfl ?_
              refine Wk.callS X (t61 hw) (t62 hw) (t63 hw) (t64 hw) (con_put2 l Z a0 hw [] h9 n0 eq y1 z1 ([y0, z0, 0, 0, 0, 0] : List Int32) rfl n_eq A_eq) (by decide) pd10 [(.ref eq), (.int (2 : Int32)), (.int y1), (.int z1)] [] rfl rfl rfl rfl 0 (Nat.le_of_eq rfl) (by decide) (by decide) (by decide) (by decide) 10 114 rfl rfl at_186 189 rfl ?_
              rintro _ T h10 X ⟨rfl, K, A_eq⟩
              show Wk p.tables e below _ (T.setTop (mkF m 189 #[.val (.int y0), .val (.int z0), .val (.int y1), .val (.int z1), .val (.int y2), .val (.int fl), .val (.ref a), .val (.int (0 : Int32)), .val (.int (1 : Int32)), .val (.int (2 : Int32)), .val (.int (1 : Int32)), .val (.int (1 : Int32)), .val (.int o2), .val (.ref ep), .val (.ref eq), .val (.int (0 : Int32)), .val (.int (2 : Int32)), .unset, .unset] [(.int (4 : Int32))]))
              replace A_eq : Arl Z h10 eq .int (([y0, z0, y1, z1, 0, 0] : List Int32).map Value.int) := A_eq
              replace S := S.keep K (ninS na_eq nin0) (ninS nP_eq nin0) (ninS nY_eq nin0)
              replace A_ep := A_ep.keep K (ninS nee nin0)
              refine Wk.istore X at_189 191 rfl #[.val (.int y0), .val (.int z0), .val (.int y1), .val (.int z1), .val (.int y2), .val (.int fl), .val (.ref a), .val (.int (0 : Int32)), .val (.int (1 : Int32)), .val (.int (2 : Int32)), .val (.int (1 : Int32)), .val (.int (1 : Int32)), .val (.int o2), .val (.ref ep), .val (.ref eq), .val (.int (0 : Int32)), .val (.int (4 : Int32)), .unset, .unset] rfl ?_
              refine Wk.goto X at_191 205 (by decide) ?_
              refine Wk.iload X at_205 207 rfl rfl ?_
              refine Wk.iconst X at_207 208 rfl (3 : Int32) rfl ?_
              refine Wk.icmpT X at_208 266 (by decide) (show (2 : Int32) < (3 : Int32) from (by decide)) ?_
              refine Wk.aload X at_266 268 rfl rfl rfl ?_
              refine Wk.iload X at_268 270 rfl rfl ?_
              refine Wk.callV X (t65 hw) (t66 hw) (t68 hw) (t67 hw) (t2 hw) (t69 hw) S.1.1 (con_yah_ l Z a0 hw [] h10 n0 a P2 Y2 2 2 ([-1, -1, -1, -1, -1, -1, 0, 1, -1, -1, -1, -1] : List Int32) ([y0, z0, 1, y1, z1, -1] : List Int32) 0 0 rfl (by decide) (Nat.le_of_ble_eq_true rfl) rfl  S) (by decide) pd8 [(.int (0 : Int32))] [] rfl rfl rfl rfl 0 (Nat.le_of_eq rfl) (by decide) (by decide) (by decide) (by decide) 11 120 rfl rfl at_270 273 rfl ?_
              rintro _ T h11 X ⟨rp, rfl, -, K, A_rp⟩
              show Wk p.tables e below _ (T.setTop (mkF m 273 #[.val (.int y0), .val (.int z0), .val (.int y1), .val (.int z1), .val (.int y2), .val (.int fl), .val (.ref a), .val (.int (0 : Int32)), .val (.int (1 : Int32)), .val (.int (2 : Int32)), .val (.int (1 : Int32)), .val (.int (1 : Int32)), .val (.int o2), .val (.ref ep), .val (.ref eq), .val (.int (0 : Int32)), .val (.int (4 : Int32)), .unset, .unset] [(.ref rp)]))
              replace A_ep := A_ep.keep K nin0
              replace A_eq := A_eq.keep K nin0
              replace S := S.keep K nin0 nin0 nin0
              refine Wk.astore X at_273 275 rfl #[.val (.int y0), .val (.int z0), .val (.int y1), .val (.int z1), .val (.int y2), .val (.int fl), .val (.ref a), .val (.int (0 : Int32)), .val (.int (1 : Int32)), .val (.int (2 : Int32)), .val (.int (1 : Int32)), .val (.int (1 : Int32)), .val (.int o2), .val (.ref ep), .val (.ref eq), .val (.int (0 : Int32)), .val (.int (4 : Int32)), .val (.ref rp), .unset] rfl rfl ?_
              refine Wk.aload X at_275 277 rfl rfl rfl ?_
              refine Wk.iload X at_277 279 rfl rfl ?_
              refine Wk.callV X (t65 hw) (t66 hw) (t68 hw) (t67 hw) (t2 hw) (t69 hw) S.1.1 (con_yah_01 l Z a0 hw [] h11 n0 a P2 Y2 2 2 ([-1, -1, -1, -1, -1, -1, 0, 1, -1, -1, -1, -1] : List Int32) ([y0, z0, 1, y1, z1, -1] : List Int32) 1 1 rfl (by decide) (Nat.le_of_ble_eq_true rfl) rfl y0 z0 rfl rfl rfl y1 z1 rfl rfl rfl S) (by decide) pd8 [(.int (1 : Int32))] [] rfl rfl rfl rfl 0 (Nat.le_of_eq rfl) (by decide) (by decide) (by decide) (by decide) 12 126 rfl rfl at_279 282 rfl ?_
              rintro _ T h12 X ⟨rq, rfl, -, K, A_rq⟩
              show Wk p.tables e below _ (T.setTop (mkF m 282 #[.val (.int y0), .val (.int z0), .val (.int y1), .val (.int z1), .val (.int y2), .val (.int fl), .val (.ref a), .val (.int (0 : Int32)), .val (.int (1 : Int32)), .val (.int (2 : Int32)), .val (.int (1 : Int32)), .val (.int (1 : Int32)), .val (.int o2), .val (.ref ep), .val (.ref eq), .val (.int (0 : Int32)), .val (.int (4 : Int32)), .val (.ref rp), .unset] [(.ref rq)]))
              replace A_ep := A_ep.keep K nin0
              replace A_eq := A_eq.keep K nin0
              replace A_rp := A_rp.keep K nin0
              refine Wk.astore X at_282 284 rfl #[.val (.int y0), .val (.int z0), .val (.int y1), .val (.int z1), .val (.int y2), .val (.int fl), .val (.ref a), .val (.int (0 : Int32)), .val (.int (1 : Int32)), .val (.int (2 : Int32)), .val (.int (1 : Int32)), .val (.int (1 : Int32)), .val (.int o2), .val (.ref ep), .val (.ref eq), .val (.int (0 : Int32)), .val (.int (4 : Int32)), .val (.ref rp), .val (.ref rq)] rfl rfl ?_
              refine Wk.aload X at_284 286 rfl rfl rfl ?_
              refine Wk.aload X at_286 288 rfl rfl rfl ?_
              refine Wk.iload X at_288 290 rfl rfl ?_
              refine Wk.callS X (t74 hw) (t75 hw) (t63 hw) (t76 hw) (con_same0 l Z a0 hw [] h12 n0 rp ep (0) (0) (0) (0) (0) (0) A_rp A_ep) (by decide) pd9 [(.ref rp), (.ref ep), (.int (0 : Int32))] [] rfl rfl rfl rfl 0 (Nat.le_of_eq rfl) (by decide) (by decide) (by decide) (by decide) 12 126 rfl rfl at_290 293 rfl ?_
              rintro _ T _ X ⟨rfl, rfl⟩
              show Wk p.tables e below _ (T.setTop (mkF m 293 #[.val (.int y0), .val (.int z0), .val (.int y1), .val (.int z1), .val (.int y2), .val (.int fl), .val (.ref a), .val (.int (0 : Int32)), .val (.int (1 : Int32)), .val (.int (2 : Int32)), .val (.int (1 : Int32)), .val (.int (1 : Int32)), .val (.int o2), .val (.ref ep), .val (.ref eq), .val (.int (0 : Int32)), .val (.int (4 : Int32)), .val (.ref rp), .val (.ref rq)] [(.int (1 : Int32))]))
              refine Wk.ifcF X at_293 296 rfl (show ¬ (1 : Int32) = (0 : Int32) from (by decide)) ?_
              refine Wk.aload X at_296 298 rfl rfl rfl ?_
              refine Wk.aload X at_298 300 rfl rfl rfl ?_
              refine Wk.iload X at_300 302 rfl rfl ?_
              refine Wk.callS X (t74 hw) (t75 hw) (t63 hw) (t76 hw) (con_same4 l Z a0 hw [] h12 n0 rq eq (y0) (z0) (y1) (z1) (0) (0) A_rq A_eq) (by decide) pd9 [(.ref rq), (.ref eq), (.int (4 : Int32))] [] rfl rfl rfl rfl 0 (Nat.le_of_eq rfl) (by decide) (by decide) (by decide) (by decide) 12 126 rfl rfl at_302 305 rfl ?_
              rintro _ T _ X ⟨rfl, rfl⟩
              show Wk p.tables e below _ (T.setTop (mkF m 305 #[.val (.int y0), .val (.int z0), .val (.int y1), .val (.int z1), .val (.int y2), .val (.int fl), .val (.ref a), .val (.int (0 : Int32)), .val (.int (1 : Int32)), .val (.int (2 : Int32)), .val (.int (1 : Int32)), .val (.int (1 : Int32)), .val (.int o2), .val (.ref ep), .val (.ref eq), .val (.int (0 : Int32)), .val (.int (4 : Int32)), .val (.ref rp), .val (.ref rq)] [(.int (1 : Int32))]))
              refine Wk.ifcF X at_305 308 rfl (show ¬ (1 : Int32) = (0 : Int32) from (by decide)) ?_
              refine Wk.iconst X at_308 309 rfl (1 : Int32) rfl ?_
              refine Wk.goto X at_309 313 (by decide) ?_
              exact Wk.zreturn X at_313 (by decide) (by decide) (Or.inr rfl) rfl
        · show Wk p.tables e below _ (T.setTop (mkF m 98 #[.val (.int y0), .val (.int z0), .val (.int y1), .val (.int z1), .val (.int y2), .val (.int fl), .val (.ref a), .val (.int (0 : Int32)), .val (.int (1 : Int32)), .val (.int (3 : Int32)), .val (.int o0), .val (.int o1), .val (.int o2), .val (.ref ep), .val (.ref eq), .val (.int (0 : Int32)), .val (.int (0 : Int32)), .unset, .unset] [(.int (1 : Int32)), (.int (3 : Int32))]))
          refine Wk.icmpF X at_98 101 rfl (show ¬ (3 : Int32) < (1 : Int32) from (by decide)) ?_
          refine Wk.aload X at_101 103 rfl rfl rfl ?_
          refine Wk.iload X at_103 105 rfl rfl ?_
          rcases ho0 with rfl | rfl
          · show Wk p.tables e below _ (T.setTop (mkF m 105 #[.val (.int y0), .val (.int z0), .val (.int y1), .val (.int z1), .val (.int y2), .val (.int fl), .val (.ref a), .val (.int (0 : Int32)), .val (.int (1 : Int32)), .val (.int (3 : Int32)), .val (.int (0 : Int32)), .val (.int o1), .val (.int o2), .val (.ref ep), .val (.ref eq), .val (.int (0 : Int32)), .val (.int (0 : Int32)), .unset, .unset] [(.int (0 : Int32)), (.ref a)]))
            refine Wk.ifcT X at_105 113 (by decide) (show (0 : Int32) = (0 : Int32) from (by decide)) ?_
            refine Wk.iload X at_113 115 rfl rfl ?_
            refine Wk.iloadN X at_115 116 rfl rfl ?_
            refine Wk.iloadN X at_116 117 rfl rfl ?_
            refine Wk.callV X (t50 hw) (t51 hw) (t53 hw) (t52 hw) (t2 hw) (t54 hw) S.1.1 (con_addYear0 l Z a0 hw [] h6 n0 a P2 Y0 2 y0 z0 ([-1, -1, -1, -1, -1, -1, -1, -1, -1, -1, -1, -1] : List Int32) ([] : List Int32) 0 0 rfl (by decide) (Nat.le_of_ble_eq_true rfl) (-1) rfl (Or.inl rfl) rfl S) (by decide) pd1 [(.int (0 : Int32)), (.int y0), (.int z0)] [] rfl rfl rfl rfl 0 (Nat.le_of_eq rfl) (by decide) (by decide) (by decide) (by decide) 9 90 rfl rfl at_117 120 rfl ?_
            rintro _ T h7 X ⟨rfl, K, Y1, b1, S⟩
            show Wk p.tables e below _ (T.setTop (mkF m 120 #[.val (.int y0), .val (.int z0), .val (.int y1), .val (.int z1), .val (.int y2), .val (.int fl), .val (.ref a), .val (.int (0 : Int32)), .val (.int (1 : Int32)), .val (.int (3 : Int32)), .val (.int (0 : Int32)), .val (.int o1), .val (.int o2), .val (.ref ep), .val (.ref eq), .val (.int (0 : Int32)), .val (.int (0 : Int32)), .unset, .unset] []))
            rw [lnkP_n, lnkY_n] at S
            replace S : HS Z h7 n0 a P2 Y1 2 1 ([0, 0, -1, -1, -1, -1, -1, -1, -1, -1, -1, -1] : List Int32) ([y0, z0, -1] : List Int32) := S
            replace nY_ep : Y1 ≠ ep := Ne.symm (far A_ep.lt b1)
            replace A_ep := A_ep.keep K (ninS (Ne.symm na_ep) (ninS (Ne.symm nP_ep) nin0))
            replace nY_eq : Y1 ≠ eq := Ne.symm (far A_eq.lt b1)
            replace A_eq := A_eq.keep K (ninS (Ne.symm na_eq) (ninS (Ne.symm nP_eq) nin0))
            refine Wk.iload X at_120 122 rfl rfl ?_
            refine Wk.ifcT X at_122 139 (by decide) (show (0 : Int32) = (0 : Int32) from (by decide)) ?_
            refine Wk.aload X at_139 141 rfl rfl rfl ?_
            refine Wk.iload X at_141 143 rfl rfl ?_
            refine Wk.iloadN X at_143 144 rfl rfl ?_
            refine Wk.iloadN X at_144 145 rfl rfl ?_
            refine Wk.callS X (t61 hw) (t62 hw) (t63 hw) (t64 hw) (con_put0 l Z a0 hw [] h7 n0 ep y0 z0 ([0, 0, 0, 0, 0, 0] : List Int32) rfl n_ep A_ep) (by decide) pd10 [(.ref ep), (.int (0 : Int32)), (.int y0), (.int z0)] [] rfl rfl rfl rfl 0 (Nat.le_of_eq rfl) (by decide) (by decide) (by decide) (by decide) 9 90 rfl rfl at_145 148 rfl ?_
            rintro _ T h8 X ⟨rfl, K, A_ep⟩
            show Wk p.tables e below _ (T.setTop (mkF m 148 #[.val (.int y0), .val (.int z0), .val (.int y1), .val (.int z1), .val (.int y2), .val (.int fl), .val (.ref a), .val (.int (0 : Int32)), .val (.int (1 : Int32)), .val (.int (3 : Int32)), .val (.int (0 : Int32)), .val (.int o1), .val (.int o2), .val (.ref ep), .val (.ref eq), .val (.int (0 : Int32)), .val (.int (0 : Int32)), .unset, .unset] [(.int (2 : Int32))]))
            replace A_ep : Arl Z h8 ep .int (([y0, z0, 0, 0, 0, 0] : List Int32).map Value.int) := A_ep
            replace S := S.keep K (ninS na_ep nin0) (ninS nP_ep nin0) (ninS nY_ep nin0)
            replace A_eq := A_eq.keep K (ninS (Ne.symm nee) nin0)
            refine Wk.istore X at_148 150 rfl #[.val (.int y0), .val (.int z0), .val (.int y1), .val (.int z1), .val (.int y2), .val (.int fl), .val (.ref a), .val (.int (0 : Int32)), .val (.int (1 : Int32)), .val (.int (3 : Int32)), .val (.int (0 : Int32)), .val (.int o1), .val (.int o2), .val (.ref ep), .val (.ref eq), .val (.int (2 : Int32)), .val (.int (0 : Int32)), .unset, .unset] rfl ?_
            refine Wk.iload X at_150 152 rfl rfl ?_
            refine Wk.iconst X at_152 153 rfl (2 : Int32) rfl ?_
            refine Wk.icmpF X at_153 156 rfl (show ¬ (3 : Int32) < (2 : Int32) from (by decide)) ?_
            refine Wk.aload X at_156 158 rfl rfl rfl ?_
            refine Wk.iload X at_158 160 rfl rfl ?_
            rcases ho1 with rfl | rfl
            · show Wk p.tables e below _ (T.setTop (mkF m 160 #[.val (.int y0), .val (.int z0), .val (.int y1), .val (.int z1), .val (.int y2), .val (.int fl), .val (.ref a), .val (.int (0 : Int32)), .val (.int (1 : Int32)), .val (.int (3 : Int32)), .val (.int (0 : Int32)), .val (.int (0 : Int32)), .val (.int o2), .val (.ref ep), .val (.ref eq), .val (.int (2 : Int32)), .val (.int (0 : Int32)), .unset, .unset] [(.int (0 : Int32)), (.ref a)]))
              refine Wk.ifcT X at_160 168 (by decide) (show (0 : Int32) = (0 : Int32) from (by decide)) ?_
              refine Wk.iload X at_168 170 rfl rfl ?_
              refine Wk.iloadN X at_170 171 rfl rfl ?_
              refine Wk.iloadN X at_171 172 rfl rfl ?_
              refine Wk.callV X (t50 hw) (t51 hw) (t53 hw) (t52 hw) (t2 hw) (t54 hw) S.1.1 (con_addYear1 l Z a0 hw [] h8 n0 a P2 Y1 2 y1 z1 ([0, 0, -1, -1, -1, -1, -1, -1, -1, -1, -1, -1] : List Int32) ([y0, z0, -1] : List Int32) 0 0 rfl (by decide) (Nat.le_of_ble_eq_true rfl) (0) rfl (Or.inr ⟨0, rfl, by decide⟩) rfl S) (by decide) pd1 [(.int (0 : Int32)), (.int y1), (.int z1)] [] rfl rfl rfl rfl 0 (Nat.le_of_eq rfl) (by decide) (by decide) (by decide) (by decide) 10 114 rfl rfl at_172 175 rfl ?_
              rintro _ T h9 X ⟨rfl, K, Y2, b2, S⟩
              show Wk p.tables e below _ (T.setTop (mkF m 175 #[.val (.int y0), .val (.int z0), .val (.int y1), .val (.int z1), .val (.int y2), .val (.int fl), .val (.ref a), .val (.int (0 : Int32)), .val (.int (1 : Int32)), .val (.int (3 : Int32)), .val (.int (0 : Int32)), .val (.int (0 : Int32)), .val (.int o2), .val (.ref ep), .val (.ref eq), .val (.int (2 : Int32)), .val (.int (0 : Int32)), .unset, .unset] []))
              rw [lnkP_s (v := 0) (by decide), lnkY_s (v := 0) (by decide)] at S
              replace S : HS Z h9 n0 a P2 Y2 2 2 ([0, 1, -1, -1, -1, -1, -1, -1, -1, -1, -1, -1] : List Int32) ([y0, z0, 1, y1, z1, -1] : List Int32) := S
              replace nY_ep : Y2 ≠ ep := Ne.symm (far A_ep.lt b2)
              replace A_ep := A_ep.keep K (ninS (Ne.symm na_ep) (ninS (Ne.symm nP_ep) nin0))
              replace nY_eq : Y2 ≠ eq := Ne.symm (far A_eq.lt b2)
              replace A_eq := A_eq.keep K (ninS (Ne.symm na_eq) (ninS (Ne.symm nP_eq) nin0))
              refine Wk.iload X at_175 177 rfl rfl ?_
              refine Wk.ifcT X at_177 194 (by decide) (show (0 : Int32) = (0 : Int32) from (by decide)) ?_
              refine Wk.aload X at_194 196 rfl rfl rfl ?_
              refine Wk.iload X at_196 198 rfl rfl ?_
              refine Wk.iloadN X at_198 199 rfl rfl ?_
              refine Wk.iloadN X at_199 200 rfl rfl ?_
              refine Wk.callS X (t61 hw) (t62 hw) (t63 hw) (t64 hw) (con_put2 l Z a0 hw [] h9 n0 ep y1 z1 ([y0, z0, 0, 0, 0, 0] : List Int32) rfl n_ep A_ep) (by decide) pd10 [(.ref ep), (.int (2 : Int32)), (.int y1), (.int z1)] [] rfl rfl rfl rfl 0 (Nat.le_of_eq rfl) (by decide) (by decide) (by decide) (by decide) 10 114 rfl rfl at_200 203 rfl ?_
              rintro _ T h10 X ⟨rfl, K, A_ep⟩
              show Wk p.tables e below _ (T.setTop (mkF m 203 #[.val (.int y0), .val (.int z0), .val (.int y1), .val (.int z1), .val (.int y2), .val (.int fl), .val (.ref a), .val (.int (0 : Int32)), .val (.int (1 : Int32)), .val (.int (3 : Int32)), .val (.int (0 : Int32)), .val (.int (0 : Int32)), .val (.int o2), .val (.ref ep), .val (.ref eq), .val (.int (2 : Int32)), .val (.int (0 : Int32)), .unset, .unset] [(.int (4 : Int32))]))
              replace A_ep : Arl Z h10 ep .int (([y0, z0, y1, z1, 0, 0] : List Int32).map Value.int) := A_ep
              replace S := S.keep K (ninS na_ep nin0) (ninS nP_ep nin0) (ninS nY_ep nin0)
              replace A_eq := A_eq.keep K (ninS (Ne.symm nee) nin0)
              refine Wk.istore X at_203 205 rfl #[.val (.int y0), .val (.int z0), .val (.int y1), .val (.int z1), .val (.int y2), .val (.int fl), .val (.ref a), .val (.int (0 : Int32)), .val (.int (1 : Int32)), .val (.int (3 : Int32)), .val (.int (0 : Int32)), .val (.int (0 : Int32)), .val (.int o2), .val (.ref ep), .val (.ref eq), .val (.int (4 : Int32)), .val (.int (0 : Int32)), .unset, .unset] rfl ?_
              refine Wk.iload X at_205 207 rfl rfl ?_
              refine Wk.iconst X at_207 208 rfl (3 : Int32) rfl ?_
              refine Wk.icmpF X at_208 211 rfl (show ¬ (3 : Int32) < (3 : Int32) from (by decide)) ?_
              refine Wk.aload X at_211 213 rfl rfl rfl ?_
              refine Wk.iload X at_213 215 rfl rfl ?_
              rcases ho2 with rfl | rfl
              · show Wk p.tables e below _ (T.setTop (mkF m 215 #[.val (.int y0), .val (.int z0), .val (.int y1), .val (.int z1), .val (.int y2), .val (.int fl), .val (.ref a), .val (.int (0 : Int32)), .val (.int (1 : Int32)), .val (.int (3 : Int32)), .val (.int (0 : Int32)), .val (.int (0 : Int32)), .val (.int (0 : Int32)), .val (.ref ep), .val (.ref eq), .val (.int (4 : Int32)), .val (.int (0 : Int32)), .unset, .unset] [(.int (0 : Int32)), (.ref a)]))
                refine Wk.ifcT X at_215 223 (by decide) (show (0 : Int32) = (0 : Int32) from (by decide)) ?_
                refine Wk.iload X at_223 225 rfl rfl ?_
                refine Wk.iload X at_225 227 rfl rfl ?_
                refine Wk.iload X at_227 229 rfl rfl ?_
                refine Wk.callV X (t50 hw) (t51 hw) (t53 hw) (t52 hw) (t2 hw) (t54 hw) S.1.1 (con_addYear2 l Z a0 hw [] h10 n0 a P2 Y2 2 y2 fl ([0, 1, -1, -1, -1, -1, -1, -1, -1, -1, -1, -1] : List Int32) ([y0, z0, 1, y1, z1, -1] : List Int32) 0 0 rfl (by decide) (Nat.le_of_ble_eq_true rfl) (1) rfl (Or.inr ⟨1, rfl, by decide⟩) rfl S) (by decide) pd1 [(.int (0 : Int32)), (.int y2), (.int fl)] [] rfl rfl rfl rfl 0 (Nat.le_of_eq rfl) (by decide) (by decide) (by decide) (by decide) 11 138 rfl rfl at_229 232 rfl ?_
                rintro _ T h11 X ⟨rfl, K, Y3, b3, S⟩
                show Wk p.tables e below _ (T.setTop (mkF m 232 #[.val (.int y0), .val (.int z0), .val (.int y1), .val (.int z1), .val (.int y2), .val (.int fl), .val (.ref a), .val (.int (0 : Int32)), .val (.int (1 : Int32)), .val (.int (3 : Int32)), .val (.int (0 : Int32)), .val (.int (0 : Int32)), .val (.int (0 : Int32)), .val (.ref ep), .val (.ref eq), .val (.int (4 : Int32)), .val (.int (0 : Int32)), .unset, .unset] []))
                rw [lnkP_s (v := 1) (by decide), lnkY_s (v := 1) (by decide)] at S
                replace S : HS Z h11 n0 a P2 Y3 2 3 ([0, 2, -1, -1, -1, -1, -1, -1, -1, -1, -1, -1] : List Int32) ([y0, z0, 1, y1, z1, 2, y2, fl, -1, 0, 0, 0] : List Int32) := S
                replace nY_ep : Y3 ≠ ep := Ne.symm (far A_ep.lt b3)
                replace A_ep := A_ep.keep K (ninS (Ne.symm na_ep) (ninS (Ne.symm nP_ep) nin0))
                replace nY_eq : Y3 ≠ eq := Ne.symm (far A_eq.lt b3)
                replace A_eq := A_eq.keep K (ninS (Ne.symm na_eq) (ninS (Ne.symm nP_eq) nin0))
                refine Wk.iload X at_232 234 rfl rfl ?_
                refine Wk.ifcT X at_234 253 (by decide) (show (0 : Int32) = (0 : Int32) from (by decide)) ?_
                refine Wk.aload X at_253 255 rfl rfl rfl ?_
                refine Wk.iload X at_255 257 rfl rfl ?_
                refine Wk.iload X at_257 259 rfl rfl ?_
                refine Wk.iload X at_259 261 rfl rfl ?_
                refine Wk.callS X (t61 hw) (t62 hw) (t63 hw) (t64 hw) (con_put4 l Z a0 hw [] h11 n0 ep y2 fl ([y0, z0, y1, z1, 0, 0] : List Int32) rfl n_ep A_ep) (by decide) pd10 [(.ref ep), (.int (4 : Int32)), (.int y2), (.int fl)] [] rfl rfl rfl rfl 0 (Nat.le_of_eq rfl) (by decide) (by decide) (by decide) (by decide) 11 138 rfl rfl at_261 264 rfl ?_
                rintro _ T h12 X ⟨rfl, K, A_ep⟩
                show Wk p.tables e below _ (T.setTop (mkF m 264 #[.val (.int y0), .val (.int z0), .val (.int y1), .val (.int z1), .val (.int y2), .val (.int fl), .val (.ref a), .val (.int (0 : Int32)), .val (.int (1 : Int32)), .val (.int (3 : Int32)), .val (.int (0 : Int32)), .val (.int (0 : Int32)), .val (.int (0 : Int32)), .val (.ref ep), .val (.ref eq), .val (.int (4 : Int32)), .val (.int (0 : Int32)), .unset, .unset] [(.int (6 : Int32))]))
                replace A_ep : Arl Z h12 ep .int (([y0, z0, y1, z1, y2, fl] : List Int32).map Value.int) := A_ep
                replace S := S.keep K (ninS na_ep nin0) (ninS nP_ep nin0) (ninS nY_ep nin0)
                replace A_eq := A_eq.keep K (ninS (Ne.symm nee) nin0)
                refine Wk.istore X at_264 266 rfl #[.val (.int y0), .val (.int z0), .val (.int y1), .val (.int z1), .val (.int y2), .val (.int fl), .val (.ref a), .val (.int (0 : Int32)), .val (.int (1 : Int32)), .val (.int (3 : Int32)), .val (.int (0 : Int32)), .val (.int (0 : Int32)), .val (.int (0 : Int32)), .val (.ref ep), .val (.ref eq), .val (.int (6 : Int32)), .val (.int (0 : Int32)), .unset, .unset] rfl ?_
                refine Wk.aload X at_266 268 rfl rfl rfl ?_
                refine Wk.iload X at_268 270 rfl rfl ?_
                refine Wk.callV X (t65 hw) (t66 hw) (t68 hw) (t67 hw) (t2 hw) (t69 hw) S.1.1 (con_yah_012 l Z a0 hw [] h12 n0 a P2 Y3 2 3 ([0, 2, -1, -1, -1, -1, -1, -1, -1, -1, -1, -1] : List Int32) ([y0, z0, 1, y1, z1, 2, y2, fl, -1, 0, 0, 0] : List Int32) 0 0 rfl (by decide) (Nat.le_of_ble_eq_true rfl) rfl y0 z0 rfl rfl rfl y1 z1 rfl rfl rfl y2 fl rfl rfl rfl S) (by decide) pd8 [(.int (0 : Int32))] [] rfl rfl rfl rfl 0 (Nat.le_of_eq rfl) (by decide) (by decide) (by decide) (by decide) 12 144 rfl rfl at_270 273 rfl ?_
                rintro _ T h13 X ⟨rp, rfl, -, K, A_rp⟩
                show Wk p.tables e below _ (T.setTop (mkF m 273 #[.val (.int y0), .val (.int z0), .val (.int y1), .val (.int z1), .val (.int y2), .val (.int fl), .val (.ref a), .val (.int (0 : Int32)), .val (.int (1 : Int32)), .val (.int (3 : Int32)), .val (.int (0 : Int32)), .val (.int (0 : Int32)), .val (.int (0 : Int32)), .val (.ref ep), .val (.ref eq), .val (.int (6 : Int32)), .val (.int (0 : Int32)), .unset, .unset] [(.ref rp)]))
                replace A_ep := A_ep.keep K nin0
                replace A_eq := A_eq.keep K nin0
                replace S := S.keep K nin0 nin0 nin0
                refine Wk.astore X at_273 275 rfl #[.val (.int y0), .val (.int z0), .val (.int y1), .val (.int z1), .val (.int y2), .val (.int fl), .val (.ref a), .val (.int (0 : Int32)), .val (.int (1 : Int32)), .val (.int (3 : Int32)), .val (.int (0 : Int32)), .val (.int (0 : Int32)), .val (.int (0 : Int32)), .val (.ref ep), .val (.ref eq), .val (.int (6 : Int32)), .val (.int (0 : Int32)), .val (.ref rp), .unset] rfl rfl ?_
                refine Wk.aload X at_275 277 rfl rfl rfl ?_
                refine Wk.iload X at_277 279 rfl rfl ?_
                refine Wk.callV X (t65 hw) (t66 hw) (t68 hw) (t67 hw) (t2 hw) (t69 hw) S.1.1 (con_yah_ l Z a0 hw [] h13 n0 a P2 Y3 2 3 ([0, 2, -1, -1, -1, -1, -1, -1, -1, -1, -1, -1] : List Int32) ([y0, z0, 1, y1, z1, 2, y2, fl, -1, 0, 0, 0] : List Int32) 1 1 rfl (by decide) (Nat.le_of_ble_eq_true rfl) rfl  S) (by decide) pd8 [(.int (1 : Int32))] [] rfl rfl rfl rfl 0 (Nat.le_of_eq rfl) (by decide) (by decide) (by decide) (by decide) 13 150 rfl rfl at_279 282 rfl ?_
                rintro _ T h14 X ⟨rq, rfl, -, K, A_rq⟩
                show Wk p.tables e below _ (T.setTop (mkF m 282 #[.val (.int y0), .val (.int z0), .val (.int y1), .val (.int z1), .val (.int y2), .val (.int fl), .val (.ref a), .val (.int (0 : Int32)), .val (.int (1 : Int32)), .val (.int (3 : Int32)), .val (.int (0 : Int32)), .val (.int (0 : Int32)), .val (.int (0 : Int32)), .val (.ref ep), .val (.ref eq), .val (.int (6 : Int32)), .val (.int (0 : Int32)), .val (.ref rp), .unset] [(.ref rq)]))
                replace A_ep := A_ep.keep K nin0
                replace A_eq := A_eq.keep K nin0
                replace A_rp := A_rp.keep K nin0
                refine Wk.astore X at_282 284 rfl #[.val (.int y0), .val (.int z0), .val (.int y1), .val (.int z1), .val (.int y2), .val (.int fl), .val (.ref a), .val (.int (0 : Int32)), .val (.int (1 : Int32)), .val (.int (3 : Int32)), .val (.int (0 : Int32)), .val (.int (0 : Int32)), .val (.int (0 : Int32)), .val (.ref ep), .val (.ref eq), .val (.int (6 : Int32)), .val (.int (0 : Int32)), .val (.ref rp), .val (.ref rq)] rfl rfl ?_
                refine Wk.aload X at_284 286 rfl rfl rfl ?_
                refine Wk.aload X at_286 288 rfl rfl rfl ?_
                refine Wk.iload X at_288 290 rfl rfl ?_
                refine Wk.callS X (t74 hw) (t75 hw) (t63 hw) (t76 hw) (con_same6 l Z a0 hw [] h14 n0 rp ep (y0) (z0) (y1) (z1) (y2) (fl) A_rp A_ep) (by decide) pd9 [(.ref rp), (.ref ep), (.int (6 : Int32))] [] rfl rfl rfl rfl 0 (Nat.le_of_eq rfl) (by decide) (by decide) (by decide) (by decide) 13 150 rfl rfl at_290 293 rfl ?_
                rintro _ T _ X ⟨rfl, rfl⟩
                show Wk p.tables e below _ (T.setTop (mkF m 293 #[.val (.int y0), .val (.int z0), .val (.int y1), .val (.int z1), .val (.int y2), .val (.int fl), .val (.ref a), .val (.int (0 : Int32)), .val (.int (1 : Int32)), .val (.int (3 : Int32)), .val (.int (0 : Int32)), .val (.int (0 : Int32)), .val (.int (0 : Int32)), .val (.ref ep), .val (.ref eq), .val (.int (6 : Int32)), .val (.int (0 : Int32)), .val (.ref rp), .val (.ref rq)] [(.int (1 : Int32))]))
                refine Wk.ifcF X at_293 296 rfl (show ¬ (1 : Int32) = (0 : Int32) from (by decide)) ?_
                refine Wk.aload X at_296 298 rfl rfl rfl ?_
                refine Wk.aload X at_298 300 rfl rfl rfl ?_
                refine Wk.iload X at_300 302 rfl rfl ?_
                refine Wk.callS X (t74 hw) (t75 hw) (t63 hw) (t76 hw) (con_same0 l Z a0 hw [] h14 n0 rq eq (0) (0) (0) (0) (0) (0) A_rq A_eq) (by decide) pd9 [(.ref rq), (.ref eq), (.int (0 : Int32))] [] rfl rfl rfl rfl 0 (Nat.le_of_eq rfl) (by decide) (by decide) (by decide) (by decide) 13 150 rfl rfl at_302 305 rfl ?_
                rintro _ T _ X ⟨rfl, rfl⟩
                show Wk p.tables e below _ (T.setTop (mkF m 305 #[.val (.int y0), .val (.int z0), .val (.int y1), .val (.int z1), .val (.int y2), .val (.int fl), .val (.ref a), .val (.int (0 : Int32)), .val (.int (1 : Int32)), .val (.int (3 : Int32)), .val (.int (0 : Int32)), .val (.int (0 : Int32)), .val (.int (0 : Int32)), .val (.ref ep), .val (.ref eq), .val (.int (6 : Int32)), .val (.int (0 : Int32)), .val (.ref rp), .val (.ref rq)] [(.int (1 : Int32))]))
                refine Wk.ifcF X at_305 308 rfl (show ¬ (1 : Int32) = (0 : Int32) from (by decide)) ?_
                refine Wk.iconst X at_308 309 rfl (1 : Int32) rfl ?_
                refine Wk.goto X at_309 313 (by decide) ?_
                exact Wk.zreturn X at_313 (by decide) (by decide) (Or.inr rfl) rfl
              · show Wk p.tables e below _ (T.setTop (mkF m 215 #[.val (.int y0), .val (.int z0), .val (.int y1), .val (.int z1), .val (.int y2), .val (.int fl), .val (.ref a), .val (.int (0 : Int32)), .val (.int (1 : Int32)), .val (.int (3 : Int32)), .val (.int (0 : Int32)), .val (.int (0 : Int32)), .val (.int (1 : Int32)), .val (.ref ep), .val (.ref eq), .val (.int (4 : Int32)), .val (.int (0 : Int32)), .unset, .unset] [(.int (1 : Int32)), (.ref a)]))
                refine Wk.ifcF X at_215 218 rfl (show ¬ (1 : Int32) = (0 : Int32) from (by decide)) ?_
                refine Wk.iload X at_218 220 rfl rfl ?_
                refine Wk.goto X at_220 225 (by decide) ?_
                refine Wk.iload X at_225 227 rfl rfl ?_
                refine Wk.iload X at_227 229 rfl rfl ?_
                refine Wk.callV X (t50 hw) (t51 hw) (t53 hw) (t52 hw) (t2 hw) (t54 hw) S.1.1 (con_addYear2 l Z a0 hw [] h10 n0 a P2 Y2 2 y2 fl ([0, 1, -1, -1, -1, -1, -1, -1, -1, -1, -1, -1] : List Int32) ([y0, z0, 1, y1, z1, -1] : List Int32) 1 1 rfl (by decide) (Nat.le_of_ble_eq_true rfl) (-1) rfl (Or.inl rfl) rfl S) (by decide) pd1 [(.int (1 : Int32)), (.int y2), (.int fl)] [] rfl rfl rfl rfl 0 (Nat.le_of_eq rfl) (by decide) (by decide) (by decide) (by decide) 11 138 rfl rfl at_229 232 rfl ?_
                rintro _ T h11 X ⟨rfl, K, Y3, b3, S⟩
                show Wk p.tables e below _ (T.setTop (mkF m 232 #[.val (.int y0), .val (.int z0), .val (.int y1), .val (.int z1), .val (.int y2), .val (.int fl), .val (.ref a), .val (.int (0 : Int32)), .val (.int (1 : Int32)), .val (.int (3 : Int32)), .val (.int (0 : Int32)), .val (.int (0 : Int32)), .val (.int (1 : Int32)), .val (.ref ep), .val (.ref eq), .val (.int (4 : Int32)), .val (.int (0 : Int32)), .unset, .unset] []))
                rw [lnkP_n, lnkY_n] at S
                replace S : HS Z h11 n0 a P2 Y3 2 3 ([0, 1, -1, -1, -1, -1, 2, 2, -1, -1, -1, -1] : List Int32) ([y0, z0, 1, y1, z1, -1, y2, fl, -1, 0, 0, 0] : List Int32) := S
                replace nY_ep : Y3 ≠ ep := Ne.symm (far A_ep.lt b3)
                replace A_ep := A_ep.keep K (ninS (Ne.symm na_ep) (ninS (Ne.symm nP_ep) nin0))
                replace nY_eq : Y3 ≠ eq := Ne.symm (far A_eq.lt b3)
                replace A_eq := A_eq.keep K (ninS (Ne.symm na_eq) (ninS (Ne.symm nP_eq) nin0))
                refine Wk.iload X at_232 234 rfl rfl ?_
                refine Wk.ifcF X at_234 237 rfl (show ¬ (1 : Int32) = (0 : Int32) from (by decide)) ?_
                refine Wk.aload X at_237 239 rfl rfl rfl ?_
                refine Wk.iload X at_239 241 rfl rfl ?_
                refine Wk.iload X at_241 243 rfl rfl ?_
                refine Wk.iload X at_243 245 rfl rfl ?_
                refine Wk.callS X (t61 hw) (t62 hw) (t63 hw) (t64 hw) (con_put0 l Z a0 hw [] h11 n0 eq y2 fl ([0, 0, 0, 0, 0, 0] : List Int32) rfl n_eq A_eq) (by decide) pd10 [(.ref eq), (.int (0 : Int32)), (.int y2), (.int fl)] [] rfl rfl rfl rfl 0 (Nat.le_of_eq rfl) (by decide) (by decide) (by decide) (by decide) 11 138 rfl rfl at_245 248 rfl ?_
                rintro _ T h12 X ⟨rfl, K, A_eq⟩
                show Wk p.tables e below _ (T.setTop (mkF m 248 #[.val (.int y0), .val (.int z0), .val (.int y1), .val (.int z1), .val (.int y2), .val (.int fl), .val (.ref a), .val (.int (0 : Int32)), .val (.int (1 : Int32)), .val (.int (3 : Int32)), .val (.int (0 : Int32)), .val (.int (0 : Int32)), .val (.int (1 : Int32)), .val (.ref ep), .val (.ref eq), .val (.int (4 : Int32)), .val (.int (0 : Int32)), .unset, .unset] [(.int (2 : Int32))]))
                replace A_eq : Arl Z h12 eq .int (([y2, fl, 0, 0, 0, 0] : List Int32).map Value.int) := A_eq
                replace S := S.keep K (ninS na_eq nin0) (ninS nP_eq nin0) (ninS nY_eq nin0)
                replace A_ep := A_ep.keep K (ninS nee nin0)
                refine Wk.istore X at_248 250 rfl #[.val (.int y0), .val (.int z0), .val (.int y1), .val (.int z1), .val (.int y2), .val (.int fl), .val (.ref a), .val (.int (0 : Int32)), .val (.int (1 : Int32)), .val (.int (3 : Int32)), .val (.int (0 : Int32)), .val (.int (0 : Int32)), .val (.int (1 : Int32)), .val (.ref ep), .val (.ref eq), .val (.int (4 : Int32)), .val (.int (2 : Int32)), .unset, .unset] rfl ?_
                refine Wk.goto X at_250 266 (by decide) ?_
                refine Wk.aload X at_266 268 rfl rfl rfl ?_
                refine Wk.iload X at_268 270 rfl rfl ?_
                refine Wk.callV X (t65 hw) (t66 hw) (t68 hw) (t67 hw) (t2 hw) (t69 hw) S.1.1 (con_yah_01 l Z a0 hw [] h12 n0 a P2 Y3 2 3 ([0, 1, -1, -1, -1, -1, 2, 2, -1, -1, -1, -1] : List Int32) ([y0, z0, 1, y1, z1, -1, y2, fl, -1, 0, 0, 0] : List Int32) 0 0 rfl (by decide) (Nat.le_of_ble_eq_true rfl) rfl y0 z0 rfl rfl rfl y1 z1 rfl rfl rfl S) (by decide) pd8 [(.int (0 : Int32))] [] rfl rfl rfl rfl 0 (Nat.le_of_eq rfl) (by decide) (by decide) (by decide) (by decide) 12 144 rfl rfl at_270 273 rfl ?_
                rintro _ T h13 X ⟨rp, rfl, -, K, A_rp⟩
                show Wk p.tables e below _ (T.setTop (mkF m 273 #[.val (.int y0), .val (.int z0), .val (.int y1), .val (.int z1), .val (.int y2), .val (.int fl), .val (.ref a), .val (.int (0 : Int32)), .val (.int (1 : Int32)), .val (.int (3 : Int32)), .val (.int (0 : Int32)), .val (.int (0 : Int32)), .val (.int (1 : Int32)), .val (.ref ep), .val (.ref eq), .val (.int (4 : Int32)), .val (.int (2 : Int32)), .unset, .unset] [(.ref rp)]))
                replace A_ep := A_ep.keep K nin0
                replace A_eq := A_eq.keep K nin0
                replace S := S.keep K nin0 nin0 nin0
                refine Wk.astore X at_273 275 rfl #[.val (.int y0), .val (.int z0), .val (.int y1), .val (.int z1), .val (.int y2), .val (.int fl), .val (.ref a), .val (.int (0 : Int32)), .val (.int (1 : Int32)), .val (.int (3 : Int32)), .val (.int (0 : Int32)), .val (.int (0 : Int32)), .val (.int (1 : Int32)), .val (.ref ep), .val (.ref eq), .val (.int (4 : Int32)), .val (.int (2 : Int32)), .val (.ref rp), .unset] rfl rfl ?_
                refine Wk.aload X at_275 277 rfl rfl rfl ?_
                refine Wk.iload X at_277 279 rfl rfl ?_
                refine Wk.callV X (t65 hw) (t66 hw) (t68 hw) (t67 hw) (t2 hw) (t69 hw) S.1.1 (con_yah_2 l Z a0 hw [] h13 n0 a P2 Y3 2 3 ([0, 1, -1, -1, -1, -1, 2, 2, -1, -1, -1, -1] : List Int32) ([y0, z0, 1, y1, z1, -1, y2, fl, -1, 0, 0, 0] : List Int32) 1 1 rfl (by decide) (Nat.le_of_ble_eq_true rfl) rfl y2 fl rfl rfl rfl S) (by decide) pd8 [(.int (1 : Int32))] [] rfl rfl rfl rfl 0 (Nat.le_of_eq rfl) (by decide) (by decide) (by decide) (by decide) 13 150 rfl rfl at_279 282 rfl ?_
                rintro _ T h14 X ⟨rq, rfl, -, K, A_rq⟩
                show Wk p.tables e below _ (T.setTop (mkF m 282 #[.val (.int y0), .val (.int z0), .val (.int y1), .val (.int z1), .val (.int y2), .val (.int fl), .val (.ref a), .val (.int (0 : Int32)), .val (.int (1 : Int32)), .val (.int (3 : Int32)), .val (.int (0 : Int32)), .val (.int (0 : Int32)), .val (.int (1 : Int32)), .val (.ref ep), .val (.ref eq), .val (.int (4 : Int32)), .val (.int (2 : Int32)), .val (.ref rp), .unset] [(.ref rq)]))
                replace A_ep := A_ep.keep K nin0
                replace A_eq := A_eq.keep K nin0
                replace A_rp := A_rp.keep K nin0
                refine Wk.astore X at_282 284 rfl #[.val (.int y0), .val (.int z0), .val (.int y1), .val (.int z1), .val (.int y2), .val (.int fl), .val (.ref a), .val (.int (0 : Int32)), .val (.int (1 : Int32)), .val (.int (3 : Int32)), .val (.int (0 : Int32)), .val (.int (0 : Int32)), .val (.int (1 : Int32)), .val (.ref ep), .val (.ref eq), .val (.int (4 : Int32)), .val (.int (2 : Int32)), .val (.ref rp), .val (.ref rq)] rfl rfl ?_
                refine Wk.aload X at_284 286 rfl rfl rfl ?_
                refine Wk.aload X at_286 288 rfl rfl rfl ?_
                refine Wk.iload X at_288 290 rfl rfl ?_
                refine Wk.callS X (t74 hw) (t75 hw) (t63 hw) (t76 hw) (con_same4 l Z a0 hw [] h14 n0 rp ep (y0) (z0) (y1) (z1) (0) (0) A_rp A_ep) (by decide) pd9 [(.ref rp), (.ref ep), (.int (4 : Int32))] [] rfl rfl rfl rfl 0 (Nat.le_of_eq rfl) (by decide) (by decide) (by decide) (by decide) 13 150 rfl rfl at_290 293 rfl ?_
                rintro _ T _ X ⟨rfl, rfl⟩
                show Wk p.tables e below _ (T.setTop (mkF m 293 #[.val (.int y0), .val (.int z0), .val (.int y1), .val (.int z1), .val (.int y2), .val (.int fl), .val (.ref a), .val (.int (0 : Int32)), .val (.int (1 : Int32)), .val (.int (3 : Int32)), .val (.int (0 : Int32)), .val (.int (0 : Int32)), .val (.int (1 : Int32)), .val (.ref ep), .val (.ref eq), .val (.int (4 : Int32)), .val (.int (2 : Int32)), .val (.ref rp), .val (.ref rq)] [(.int (1 : Int32))]))
                refine Wk.ifcF X at_293 296 rfl (show ¬ (1 : Int32) = (0 : Int32) from (by decide)) ?_
                refine Wk.aload X at_296 298 rfl rfl rfl ?_
                refine Wk.aload X at_298 300 rfl rfl rfl ?_
                refine Wk.iload X at_300 302 rfl rfl ?_
                refine Wk.callS X (t74 hw) (t75 hw) (t63 hw) (t76 hw) (con_same2 l Z a0 hw [] h14 n0 rq eq (y2) (fl) (0) (0) (0) (0) A_rq A_eq) (by decide) pd9 [(.ref rq), (.ref eq), (.int (2 : Int32))] [] rfl rfl rfl rfl 0 (Nat.le_of_eq rfl) (by decide) (by decide) (by decide) (by decide) 13 150 rfl rfl at_302 305 rfl ?_
                rintro _ T _ X ⟨rfl, rfl⟩
                show Wk p.tables e below _ (T.setTop (mkF m 305 #[.val (.int y0), .val (.int z0), .val (.int y1), .val (.int z1), .val (.int y2), .val (.int fl), .val (.ref a), .val (.int (0 : Int32)), .val (.int (1 : Int32)), .val (.int (3 : Int32)), .val (.int (0 : Int32)), .val (.int (0 : Int32)), .val (.int (1 : Int32)), .val (.ref ep), .val (.ref eq), .val (.int (4 : Int32)), .val (.int (2 : Int32)), .val (.ref rp), .val (.ref rq)] [(.int (1 : Int32))]))
                refine Wk.ifcF X at_305 308 rfl (show ¬ (1 : Int32) = (0 : Int32) from (by decide)) ?_
                refine Wk.iconst X at_308 309 rfl (1 : Int32) rfl ?_
                refine Wk.goto X at_309 313 (by decide) ?_
                exact Wk.zreturn X at_313 (by decide) (by decide) (Or.inr rfl) rfl
            · show Wk p.tables e below _ (T.setTop (mkF m 160 #[.val (.int y0), .val (.int z0), .val (.int y1), .val (.int z1), .val (.int y2), .val (.int fl), .val (.ref a), .val (.int (0 : Int32)), .val (.int (1 : Int32)), .val (.int (3 : Int32)), .val (.int (0 : Int32)), .val (.int (1 : Int32)), .val (.int o2), .val (.ref ep), .val (.ref eq), .val (.int (2 : Int32)), .val (.int (0 : Int32)), .unset, .unset] [(.int (1 : Int32)), (.ref a)]))
              refine Wk.ifcF X at_160 163 rfl (show ¬ (1 : Int32) = (0 : Int32) from (by decide)) ?_
              refine Wk.iload X at_163 165 rfl rfl ?_
              refine Wk.goto X at_165 170 (by decide) ?_
              refine Wk.iloadN X at_170 171 rfl rfl ?_
              refine Wk.iloadN X at_171 172 rfl rfl ?_
              refine Wk.callV X (t50 hw) (t51 hw) (t53 hw) (t52 hw) (t2 hw) (t54 hw) S.1.1 (con_addYear1 l Z a0 hw [] h8 n0 a P2 Y1 2 y1 z1 ([0, 0, -1, -1, -1, -1, -1, -1, -1, -1, -1, -1] : List Int32) ([y0, z0, -1] : List Int32) 1 1 rfl (by decide) (Nat.le_of_ble_eq_true rfl) (-1) rfl (Or.inl rfl) rfl S) (by decide) pd1 [(.int (1 : Int32)), (.int y1), (.int z1)] [] rfl rfl rfl rfl 0 (Nat.le_of_eq rfl) (by decide) (by decide) (by decide) (by decide) 10 114 rfl rfl at_172 175 rfl ?_
              rintro _ T h9 X ⟨rfl, K, Y2, b2, S⟩
              show Wk p.tables e below _ (T.setTop (mkF m 175 #[.val (.int y0), .val (.int z0), .val (.int y1), .val (.int z1), .val (.int y2), .val (.int fl), .val (.ref a), .val (.int (0 : Int32)), .val (.int (1 : Int32)), .val (.int (3 : Int32)), .val (.int (0 : Int32)), .val (.int (1 : Int32)), .val (.int o2), .val (.ref ep), .val (.ref eq), .val (.int (2 : Int32)), .val (.int (0 : Int32)), .unset, .unset] []))
              rw [lnkP_n, lnkY_n] at S
              replace S : HS Z h9 n0 a P2 Y2 2 2 ([0, 0, -1, -1, -1, -1, 1, 1, -1, -1, -1, -1] : List Int32) ([y0, z0, -1, y1, z1, -1] : List Int32) := S
              replace nY_ep : Y2 ≠ ep := Ne.symm (far A_ep.lt b2)
              replace A_ep := A_ep.keep K (ninS (Ne.symm na_ep) (ninS (Ne.symm nP_ep) nin0))
              replace nY_eq : Y2 ≠ eq := Ne.symm (far A_eq.lt b2)
              replace A_eq := A_eq.keep K (ninS (Ne.symm na_eq) (ninS (Ne.symm nP_eq) nin0))
              refine Wk.iload X at_175 177 rfl rfl ?_
              refine Wk.ifcF X at_177 180 rfl (show ¬ (1 : Int32) = (0 : Int32) from (by decide)) ?_
              refine Wk.aload X at_180 182 rfl rfl rfl ?_
              refine Wk.iload X at_182 184 rfl rfl ?_
              refine Wk.iloadN X at_184 185 rfl rfl ?_
              refine Wk.iloadN X at_185 186 rfl rfl ?_
              refine Wk.callS X (t61 hw) (t62 hw) (t63 hw) (t64 hw) (con_put0 l Z a0 hw [] h9 n0 eq y1 z1 ([0, 0, 0, 0, 0, 0] : List Int32) rfl n_eq A_eq) (by decide) pd10 [(.ref eq), (.int (0 : Int32)), (.int y1), (.int z1)] [] rfl rfl rfl rfl 0 (Nat.le_of_eq rfl) (by decide) (by decide) (by decide) (by decide) 10 114 rfl rfl at_186 189 rfl ?_
              rintro _ T h10 X ⟨rfl, K, A_eq⟩
              show Wk p.tables e below _ (T.setTop (mkF m 189 #[.val (.int y0), .val (.int z0), .val (.int y1), .val (.int z1), .val (.int y2), .val (.int fl), .val (.ref a), .val (.int (0 : Int32)), .val (.int (1 : Int32)), .val (.int (3 : Int32)), .val (.int (0 : Int32)), .val (.int (1 : Int32)), .val (.int o2), .val (.ref ep), .val (.ref eq), .val (.int (2 : Int32)), .val (.int (0 : Int32)), .unset, .unset] [(.int (2 : Int32))]))
              replace A_eq : Arl Z h10 eq .int (([y1, z1, 0, 0, 0, 0] : List Int32).map Value.int) := A_eq
              replace S := S.keep K (ninS na_eq nin0) (ninS nP_eq nin0) (ninS nY_eq nin0)
              replace A_ep := A_ep.keep K (ninS nee nin0)
              refine Wk.istore X at_189 191 rfl #[.val (.int y0), .val (.int z0), .val (.int y1), .val (.int z1), .val (.int y2), .val (.int fl), .val (.ref a), .val (.int (0 : Int32)), .val (.int (1 : Int32)), .val (.int (3 : Int32)), .val (.int (0 : Int32)), .val (.int (1 : Int32)), .val (.int o2), .val (.ref ep), .val (.ref eq), .val (.int (2 : Int32)), .val (.int (2 : Int32)), .unset, .unset] rfl ?_
              refine Wk.goto X at_191 205 (by decide) ?_
              refine Wk.iload X at_205 207 rfl rfl ?_
              refine Wk.iconst X at_207 208 rfl (3 : Int32) rfl ?_
              refine Wk.icmpF X at_208 211 rfl (show ¬ (3 : Int32) < (3 : Int32) from (by decide)) ?_
              refine Wk.aload X at_211 213 rfl rfl rfl ?_
              refine Wk.iload X at_213 215 rfl rfl ?_
              rcases ho2 with rfl | rfl
              · show Wk p.tables e below _ (T.setTop (mkF m 215 #[.val (.int y0), .val (.int z0), .val (.int y1), .val (.int z1), .val (.int y2), .val (.int fl), .val (.ref a), .val (.int (0 : Int32)), .val (.int (1 : Int32)), .val (.int (3 : Int32)), .val (.int (0 : Int32)), .val (.int (1 : Int32)), .val (.int (0 : Int32)), .val (.ref ep), .val (.ref eq), .val (.int (2 : Int32)), .val (.int (2 : Int32)), .unset, .unset] [(.int (0 : Int32)), (.ref a)]))
                refine Wk.ifcT X at_215 223 (by decide) (show (0 : Int32) = (0 : Int32) from (by decide)) ?_
                refine Wk.iload X at_223 225 rfl rfl ?_
                refine Wk.iload X at_225 227 rfl rfl ?_
                refine Wk.iload X at_227 229 rfl rfl ?_
                refine Wk.callV X (t50 hw) (t51 hw) (t53 hw) (t52 hw) (t2 hw) (t54 hw) S.1.1 (con_addYear2 l Z a0 hw [] h10 n0 a P2 Y2 2 y2 fl ([0, 0, -1, -1, -1, -1, 1, 1, -1, -1, -1, -1] : List Int32) ([y0, z0, -1, y1, z1, -1] : List Int32) 0 0 rfl (by decide) (Nat.le_of_ble_eq_true rfl) (0) rfl (Or.inr ⟨0, rfl, by decide⟩) rfl S) (by decide) pd1 [(.int (0 : Int32)), (.int y2), (.int fl)] [] rfl rfl rfl rfl 0 (Nat.le_of_eq rfl) (by decide) (by decide) (by decide) (by decide) 11 138 rfl rfl at_229 232 rfl ?_
                rintro _ T h11 X ⟨rfl, K, Y3, b3, S⟩
                show Wk p.tables e below _ (T.setTop (mkF m 232 #[.val (.int y0), .val (.int z0), .val (.int y1), .val (.int z1), .val (.int y2), .val (.int fl), .val (.ref a), .val (.int (0 : Int32)), .val (.int (1 : Int32)), .val (.int (3 : Int32)), .val (.int (0 : Int32)), .val (.int (1 : Int32)), .val (.int (0 : Int32)), .val (.ref ep), .val (.ref eq), .val (.int (2 : Int32)), .val (.int (2 : Int32)), .unset, .unset] []))
                rw [lnkP_s (v := 0) (by decide), lnkY_s (v := 0) (by decide)] at S
                replace S : HS Z h11 n0 a P2 Y3 2 3 ([0, 2, -1, -1, -1, -1, 1, 1, -1, -1, -1, -1] : List Int32) ([y0, z0, 2, y1, z1, -1, y2, fl, -1, 0, 0, 0] : List Int32) := S
                replace nY_ep : Y3 ≠ ep := Ne.symm (far A_ep.lt b3)
                replace A_ep := A_ep.keep K (ninS (Ne.symm na_ep) (ninS (Ne.symm nP_ep) nin0))
                replace nY_eq : Y3 ≠ eq := Ne.symm (far A_eq.lt b3)
                replace A_eq := A_eq.keep K (ninS (Ne.symm na_eq) (ninS (Ne.symm nP_eq) nin0))
                refine Wk.iload X at_232 234 rfl rfl ?_
                refine Wk.ifcT X at_234 253 (by decide) (show (0 : Int32) = (0 : Int32) from (by decide)) ?_
                refine Wk.aload X at_253 255 rfl rfl rfl ?_
                refine Wk.iload X at_255 257 rfl rfl ?_
                refine Wk.iload X at_257 259 rfl rfl ?_
                refine Wk.iload X at_259 261 rfl rfl ?_
                refine Wk.callS X (t61 hw) (t62 hw) (t63 hw) (t64 hw) (con_put2 l Z a0 hw [] h11 n0 ep y2 fl ([y0, z0, 0, 0, 0, 0] : List Int32) rfl n_ep A_ep) (by decide) pd10 [(.ref ep), (.int (2 : Int32)), (.int y2), (.int fl)] [] rfl rfl rfl rfl 0 (Nat.le_of_eq rfl) (by decide) (by decide) (by decide) (by decide) 11 138 rfl rfl at_261 264 rfl ?_
                rintro _ T h12 X ⟨rfl, K, A_ep⟩
                show Wk p.tables e below _ (T.setTop (mkF m 264 #[.val (.int y0), .val (.int z0), .val (.int y1), .val (.int z1), .val (.int y2), .val (.int fl), .val (.ref a), .val (.int (0 : Int32)), .val (.int (1 : Int32)), .val (.int (3 : Int32)), .val (.int (0 : Int32)), .val (.int (1 : Int32)), .val (.int (0 : Int32)), .val (.ref ep), .val (.ref eq), .val (.int (2 : Int32)), .val (.int (2 : Int32)), .unset, .unset] [(.int (4 : Int32))]))
                replace A_ep : Arl Z h12 ep .int (([y0, z0, y2, fl, 0, 0] : List Int32).map Value.int) := A_ep
                replace S := S.keep K (ninS na_ep nin0) (ninS nP_ep nin0) (ninS nY_ep nin0)
                replace A_eq := A_eq.keep K (ninS (Ne.symm nee) nin0)
                refine Wk.istore X at_264 266 rfl #[.val (.int y0), .val (.int z0), .val (.int y1), .val (.int z1), .val (.int y2), .val (.int fl), .val (.ref a), .val (.int (0 : Int32)), .val (.int (1 : Int32)), .val (.int (3 : Int32)), .val (.int (0 : Int32)), .val (.int (1 : Int32)), .val (.int (0 : Int32)), .val (.ref ep), .val (.ref eq), .val (.int (4 : Int32)), .val (.int (2 : Int32)), .unset, .unset] rfl ?_
                refine Wk.aload X at_266 268 rfl rfl rfl ?_
                refine Wk.iload X at_268 270 rfl rfl ?_
                refine Wk.callV X (t65 hw) (t66 hw) (t68 hw) (t67 hw) (t2 hw) (t69 hw) S.1.1 (con_yah_02 l Z a0 hw [] h12 n0 a P2 Y3 2 3 ([0, 2, -1, -1, -1, -1, 1, 1, -1, -1, -1, -1] : List Int32) ([y0, z0, 2, y1, z1, -1, y2, fl, -1, 0, 0, 0] : List Int32) 0 0 rfl (by decide) (Nat.le_of_ble_eq_true rfl) rfl y0 z0 rfl rfl rfl y2 fl rfl rfl rfl S) (by decide) pd8 [(.int (0 : Int32))] [] rfl rfl rfl rfl 0 (Nat.le_of_eq rfl) (by decide) (by decide) (by decide) (by decide) 12 144 rfl rfl at_270 273 rfl ?_
                rintro _ T h13 X ⟨rp, rfl, -, K, A_rp⟩
                show Wk p.tables e below _ (T.setTop (mkF m 273 #[.val (.int y0), .val (.int z0), .val (.int y1), .val (.int z1), .val (.int y2), .val (.int fl), .val (.ref a), .val (.int (0 : Int32)), .val (.int (1 : Int32)), .val (.int (3 : Int32)), .val (.int (0 : Int32)), .val (.int (1 : Int32)), .val (.int (0 : Int32)), .val (.ref ep), .val (.ref eq), .val (.int (4 : Int32)), .val (.int (2 : Int32)), .unset, .unset] [(.ref rp)]))
                replace A_ep := A_ep.keep K nin0
                replace A_eq := A_eq.keep K nin0
                replace S := S.keep K nin0 nin0 nin0
                refine Wk.astore X at_273 275 rfl #[.val (.int y0), .val (.int z0), .val (.int y1), .val (.int z1), .val (.int y2), .val (.int fl), .val (.ref a), .val (.int (0 : Int32)), .val (.int (1 : Int32)), .val (.int (3 : Int32)), .val (.int (0 : Int32)), .val (.int (1 : Int32)), .val (.int (0 : Int32)), .val (.ref ep), .val (.ref eq), .val (.int (4 : Int32)), .val (.int (2 : Int32)), .val (.ref rp), .unset] rfl rfl ?_
                refine Wk.aload X at_275 277 rfl rfl rfl ?_
                refine Wk.iload X at_277 279 rfl rfl ?_
                refine Wk.callV X (t65 hw) (t66 hw) (t68 hw) (t67 hw) (t2 hw) (t69 hw) S.1.1 (con_yah_1 l Z a0 hw [] h13 n0 a P2 Y3 2 3 ([0, 2, -1, -1, -1, -1, 1, 1, -1, -1, -1, -1] : List Int32) ([y0, z0, 2, y1, z1, -1, y2, fl, -1, 0, 0, 0] : List Int32) 1 1 rfl (by decide) (Nat.le_of_ble_eq_true rfl) rfl y1 z1 rfl rfl rfl S) (by decide) pd8 [(.int (1 : Int32))] [] rfl rfl rfl rfl 0 (Nat.le_of_eq rfl) (by decide) (by decide) (by decide) (by decide) 13 150 rfl rfl at_279 282 rfl ?_
                rintro _ T h14 X ⟨rq, rfl, -, K, A_rq⟩
                show Wk p.tables e below _ (T.setTop (mkF m 282 #[.val (.int y0), .val (.int z0), .val (.int y1), .val (.int z1), .val (.int y2), .val (.int fl), .val (.ref a), .val (.int (0 : Int32)), .val (.int (1 : Int32)), .val (.int (3 : Int32)), .val (.int (0 : Int32)), .val (.int (1 : Int32)), .val (.int (0 : Int32)), .val (.ref ep), .val (.ref eq), .val (.int (4 : Int32)), .val (.int (2 : Int32)), .val (.ref rp), .unset] [(.ref rq)]))
                replace A_ep := A_ep.keep K nin0
                replace A_eq := A_eq.keep K nin0
                replace A_rp := A_rp.keep K nin0
                refine Wk.astore X at_282 284 rfl #[.val (.int y0), .val (.int z0), .val (.int y1), .val (.int z1), .val (.int y2), .val (.int fl), .val (.ref a), .val (.int (0 : Int32)), .val (.int (1 : Int32)), .val (.int (3 : Int32)), .val (.int (0 : Int32)), .val (.int (1 : Int32)), .val (.int (0 : Int32)), .val (.ref ep), .val (.ref eq), .val (.int (4 : Int32)), .val (.int (2 : Int32)), .val (.ref rp), .val (.ref rq)] rfl rfl ?_
                refine Wk.aload X at_284 286 rfl rfl rfl ?_
                refine Wk.aload X at_286 288 rfl rfl rfl ?_
                refine Wk.iload X at_288 290 rfl rfl ?_
                refine Wk.callS X (t74 hw) (t75 hw) (t63 hw) (t76 hw) (con_same4 l Z a0 hw [] h14 n0 rp ep (y0) (z0) (y2) (fl) (0) (0) A_rp A_ep) (by decide) pd9 [(.ref rp), (.ref ep), (.int (4 : Int32))] [] rfl rfl rfl rfl 0 (Nat.le_of_eq rfl) (by decide) (by decide) (by decide) (by decide) 13 150 rfl rfl at_290 293 rfl ?_
                rintro _ T _ X ⟨rfl, rfl⟩
                show Wk p.tables e below _ (T.setTop (mkF m 293 #[.val (.int y0), .val (.int z0), .val (.int y1), .val (.int z1), .val (.int y2), .val (.int fl), .val (.ref a), .val (.int (0 : Int32)), .val (.int (1 : Int32)), .val (.int (3 : Int32)), .val (.int (0 : Int32)), .val (.int (1 : Int32)), .val (.int (0 : Int32)), .val (.ref ep), .val (.ref eq), .val (.int (4 : Int32)), .val (.int (2 : Int32)), .val (.ref rp), .val (.ref rq)] [(.int (1 : Int32))]))
                refine Wk.ifcF X at_293 296 rfl (show ¬ (1 : Int32) = (0 : Int32) from (by decide)) ?_
                refine Wk.aload X at_296 298 rfl rfl rfl ?_
                refine Wk.aload X at_298 300 rfl rfl rfl ?_
                refine Wk.iload X at_300 302 rfl rfl ?_
                refine Wk.callS X (t74 hw) (t75 hw) (t63 hw) (t76 hw) (con_same2 l Z a0 hw [] h14 n0 rq eq (y1) (z1) (0) (0) (0) (0) A_rq A_eq) (by decide) pd9 [(.ref rq), (.ref eq), (.int (2 : Int32))] [] rfl rfl rfl rfl 0 (Nat.le_of_eq rfl) (by decide) (by decide) (by decide) (by decide) 13 150 rfl rfl at_302 305 rfl ?_
                rintro _ T _ X ⟨rfl, rfl⟩
                show Wk p.tables e below _ (T.setTop (mkF m 305 #[.val (.int y0), .val (.int z0), .val (.int y1), .val (.int z1), .val (.int y2), .val (.int fl), .val (.ref a), .val (.int (0 : Int32)), .val (.int (1 : Int32)), .val (.int (3 : Int32)), .val (.int (0 : Int32)), .val (.int (1 : Int32)), .val (.int (0 : Int32)), .val (.ref ep), .val (.ref eq), .val (.int (4 : Int32)), .val (.int (2 : Int32)), .val (.ref rp), .val (.ref rq)] [(.int (1 : Int32))]))
                refine Wk.ifcF X at_305 308 rfl (show ¬ (1 : Int32) = (0 : Int32) from (by decide)) ?_
                refine Wk.iconst X at_308 309 rfl (1 : Int32) rfl ?_
                refine Wk.goto X at_309 313 (by decide) ?_
                exact Wk.zreturn X at_313 (by decide) (by decide) (Or.inr rfl) rfl
              · show Wk p.tables e below _ (T.setTop (mkF m 215 #[.val (.int y0), .val (.int z0), .val (.int y1), .val (.int z1), .val (.int y2), .val (.int fl), .val (.ref a), .val (.int (0 : Int32)), .val (.int (1 : Int32)), .val (.int (3 : Int32)), .val (.int (0 : Int32)), .val (.int (1 : Int32)), .val (.int (1 : Int32)), .val (.ref ep), .val (.ref eq), .val (.int (2 : Int32)), .val (.int (2 : Int32)), .unset, .unset] [(.int (1 : Int32)), (.ref a)]))
                refine Wk.ifcF X at_215 218 rfl (show ¬ (1 : Int32) = (0 : Int32) from (by decide)) ?_
                refine Wk.iload X at_218 220 rfl rfl ?_
                refine Wk.goto X at_220 225 (by decide) ?_
                refine Wk.iload X at_225 227 rfl rfl ?_
                refine Wk.iload X at_227 229 rfl rfl ?_
                refine Wk.callV X (t50 hw) (t51 hw) (t53 hw) (t52 hw) (t2 hw) (t54 hw) S.1.1 (con_addYear2 l Z a0 hw [] h10 n0 a P2 Y2 2 y2 fl ([0, 0, -1, -1, -1, -1, 1, 1, -1, -1, -1, -1] : List Int32) ([y0, z0, -1, y1, z1, -1] : List Int32) 1 1 rfl (by decide) (Nat.le_of_ble_eq_true rfl) (1) rfl (Or.inr ⟨1, rfl, by decide⟩) rfl S) (by decide) pd1 [(.int (1 : Int32)), (.int y2), (.int fl)] [] rfl rfl rfl rfl 0 (Nat.le_of_eq rfl) (by decide) (by decide) (by decide) (by decide) 11 138 rfl rfl at_229 232 rfl ?_
                rintro _ T h11 X ⟨rfl, K, Y3, b3, S⟩
                show Wk p.tables e below _ (T.setTop (mkF m 232 #[.val (.int y0), .val (.int z0), .val (.int y1), .val (.int z1), .val (.int y2), .val (.int fl), .val (.ref a), .val (.int (0 : Int32)), .val (.int (1 : Int32)), .val (.int (3 : Int32)), .val (.int (0 : Int32)), .val (.int (1 : Int32)), .val (.int (1 : Int32)), .val (.ref ep), .val (.ref eq), .val (.int (2 : Int32)), .val (.int (2 : Int32)), .unset, .unset] []))
                rw [lnkP_s (v := 1) (by decide), lnkY_s (v := 1) (by decide)] at S
                replace S : HS Z h11 n0 a P2 Y3 2 3 ([0, 0, -1, -1, -1, -1, 1, 2, -1, -1, -1, -1] : List Int32) ([y0, z0, -1, y1, z1, 2, y2, fl, -1, 0, 0, 0] : List Int32) := S
                replace nY_ep : Y3 ≠ ep := Ne.symm (far A_ep.lt b3)
                replace A_ep := A_ep.keep K (ninS (Ne.symm na_ep) (ninS (Ne.symm nP_ep) nin0))
                replace nY_eq : Y3 ≠ eq := Ne.symm (far A_eq.lt b3)
                replace A_eq := A_eq.keep K (ninS (Ne.symm na_eq) (ninS (Ne.symm nP_eq) nin0))
                refine Wk.iload X at_232 234 rfl rfl ?_
                refine Wk.ifcF X at_234 237 rfl (show ¬ (1 : Int32) = (0 : Int32) from (by decide)) ?_
                refine Wk.aload X at_237 239 rfl rfl rfl ?_
                refine Wk.iload X at_239 241 rfl rfl ?_
                refine Wk.iload X at_241 243 rfl rfl ?_
                refine Wk.iload X at_243 245 rfl rfl ?_
                refine Wk.callS X (t61 hw) (t62 hw) (t63 hw) (t64 hw) (con_put2 l Z a0 hw [] h11 n0 eq y2 fl ([y1, z1, 0, 0, 0, 0] : List Int32) rfl n_eq A_eq) (by decide) pd10 [(.ref eq), (.int (2 : Int32)), (.int y2), (.int fl)] [] rfl rfl rfl rfl 0 (Nat.le_of_eq rfl) (by decide) (by decide) (by decide) (by decide) 11 138 rfl rfl at_245 248 rfl ?_
                rintro _ T h12 X ⟨rfl, K, A_eq⟩
                show Wk p.tables e below _ (T.setTop (mkF m 248 #[.val (.int y0), .val (.int z0), .val (.int y1), .val (.int z1), .val (.int y2), .val (.int fl), .val (.ref a), .val (.int (0 : Int32)), .val (.int (1 : Int32)), .val (.int (3 : Int32)), .val (.int (0 : Int32)), .val (.int (1 : Int32)), .val (.int (1 : Int32)), .val (.ref ep), .val (.ref eq), .val (.int (2 : Int32)), .val (.int (2 : Int32)), .unset, .unset] [(.int (4 : Int32))]))
                replace A_eq : Arl Z h12 eq .int (([y1, z1, y2, fl, 0, 0] : List Int32).map Value.int) := A_eq
                replace S := S.keep K (ninS na_eq nin0) (ninS nP_eq nin0) (ninS nY_eq nin0)
                replace A_ep := A_ep.keep K (ninS nee nin0)
                refine Wk.istore X at_248 250 rfl #[.val (.int y0), .val (.int z0), .val (.int y1), .val (.int z1), .val (.int y2), .val (.int fl), .val (.ref a), .val (.int (0 : Int32)), .val (.int (1 : Int32)), .val (.int (3 : Int32)), .val (.int (0 : Int32)), .val (.int (1 : Int32)), .val (.int (1 : Int32)), .val (.ref ep), .val (.ref eq), .val (.int (2 : Int32)), .val (.int (4 : Int32)), .unset, .unset] rfl ?_
                refine Wk.goto X at_250 266 (by decide) ?_
                refine Wk.aload X at_266 268 rfl rfl rfl ?_
                refine Wk.iload X at_268 270 rfl rfl ?_
                refine Wk.callV X (t65 hw) (t66 hw) (t68 hw) (t67 hw) (t2 hw) (t69 hw) S.1.1 (con_yah_0 l Z a0 hw [] h12 n0 a P2 Y3 2 3 ([0, 0, -1, -1, -1, -1, 1, 2, -1, -1, -1, -1] : List Int32) ([y0, z0, -1, y1, z1, 2, y2, fl, -1, 0, 0, 0] : List Int32) 0 0 rfl (by decide) (Nat.le_of_ble_eq_true rfl) rfl y0 z0 rfl rfl rfl S) (by decide) pd8 [(.int (0 : Int32))] [] rfl rfl rfl rfl 0 (Nat.le_of_eq rfl) (by decide) (by decide) (by decide) (by decide) 12 144 rfl rfl at_270 273 rfl ?_
                rintro _ T h13 X ⟨rp, rfl, -, K, A_rp⟩
                show Wk p.tables e below _ (T.setTop (mkF m 273 #[.val (.int y0), .val (.int z0), .val (.int y1), .val (.int z1), .val (.int y2), .val (.int fl), .val (.ref a), .val (.int (0 : Int32)), .val (.int (1 : Int32)), .val (.int (3 : Int32)), .val (.int (0 : Int32)), .val (.int (1 : Int32)), .val (.int (1 : Int32)), .val (.ref ep), .val (.ref eq), .val (.int (2 : Int32)), .val (.int (4 : Int32)), .unset, .unset] [(.ref rp)]))
                replace A_ep := A_ep.keep K nin0
                replace A_eq := A_eq.keep K nin0
                replace S := S.keep K nin0 nin0 nin0
                refine Wk.astore X at_273 275 rfl #[.val (.int y0), .val (.int z0), .val (.int y1), .val (.int z1), .val (.int y2), .val (.int fl), .val (.ref a), .val (.int (0 : Int32)), .val (.int (1 : Int32)), .val (.int (3 : Int32)), .val (.int (0 : Int32)), .val (.int (1 : Int32)), .val (.int (1 : Int32)), .val (.ref ep), .val (.ref eq), .val (.int (2 : Int32)), .val (.int (4 : Int32)), .val (.ref rp), .unset] rfl rfl ?_
                refine Wk.aload X at_275 277 rfl rfl rfl ?_
                refine Wk.iload X at_277 279 rfl rfl ?_
                refine Wk.callV X (t65 hw) (t66 hw) (t68 hw) (t67 hw) (t2 hw) (t69 hw) S.1.1 (con_yah_12 l Z a0 hw [] h13 n0 a P2 Y3 2 3 ([0, 0, -1, -1, -1, -1, 1, 2, -1, -1, -1, -1] : List Int32) ([y0, z0, -1, y1, z1, 2, y2, fl, -1, 0, 0, 0] : List Int32) 1 1 rfl (by decide) (Nat.le_of_ble_eq_true rfl) rfl y1 z1 rfl rfl rfl y2 fl rfl rfl rfl S) (by decide) pd8 [(.int (1 : Int32))] [] rfl rfl rfl rfl 0 (Nat.le_of_eq rfl) (by decide) (by decide) (by decide) (by decide) 13 150 rfl rfl at_279 282 rfl ?_
                rintro _ T h14 X ⟨rq, rfl, -, K, A_rq⟩
                show Wk p.tables e below _ (T.setTop (mkF m 282 #[.val (.int y0), .val (.int z0), .val (.int y1), .val (.int z1), .val (.int y2), .val (.int fl), .val (.ref a), .val (.int (0 : Int32)), .val (.int (1 : Int32)), .val (.int (3 : Int32)), .val (.int (0 : Int32)), .val (.int (1 : Int32)), .val (.int (1 : Int32)), .val (.ref ep), .val (.ref eq), .val (.int (2 : Int32)), .val (.int (4 : Int32)), .val (.ref rp), .unset] [(.ref rq)]))
                replace A_ep := A_ep.keep K nin0
                replace A_eq := A_eq.keep K nin0
                replace A_rp := A_rp.keep K nin0
                refine Wk.astore X at_282 284 rfl #[.val (.int y0), .val (.int z0), .val (.int y1), .val (.int z1), .val (.int y2), .val (.int fl), .val (.ref a), .val (.int (0 : Int32)), .val (.int (1 : Int32)), .val (.int (3 : Int32)), .val (.int (0 : Int32)), .val (.int (1 : Int32)), .val (.int (1 : Int32)), .val (.ref ep), .val (.ref eq), .val (.int (2 : Int32)), .val (.int (4 : Int32)), .val (.ref rp), .val (.ref rq)] rfl rfl ?_
                refine Wk.aload X at_284 286 rfl rfl rfl ?_
                refine Wk.aload X at_286 288 rfl rfl rfl ?_
                refine Wk.iload X at_288 290 rfl rfl ?_
                refine Wk.callS X (t74 hw) (t75 hw) (t63 hw) (t76 hw) (con_same2 l Z a0 hw [] h14 n0 rp ep (y0) (z0) (0) (0) (0) (0) A_rp A_ep) (by decide) pd9 [(.ref rp), (.ref ep), (.int (2 : Int32))] [] rfl rfl rfl rfl 0 (Nat.le_of_eq rfl) (by decide) (by decide) (by decide) (by decide) 13 150 rfl rfl at_290 293 rfl ?_
                rintro _ T _ X ⟨rfl, rfl⟩
                show Wk p.tables e below _ (T.setTop (mkF m 293 #[.val (.int y0), .val (.int z0), .val (.int y1), .val (.int z1), .val (.int y2), .val (.int fl), .val (.ref a), .val (.int (0 : Int32)), .val (.int (1 : Int32)), .val (.int (3 : Int32)), .val (.int (0 : Int32)), .val (.int (1 : Int32)), .val (.int (1 : Int32)), .val (.ref ep), .val (.ref eq), .val (.int (2 : Int32)), .val (.int (4 : Int32)), .val (.ref rp), .val (.ref rq)] [(.int (1 : Int32))]))
                refine Wk.ifcF X at_293 296 rfl (show ¬ (1 : Int32) = (0 : Int32) from (by decide)) ?_
                refine Wk.aload X at_296 298 rfl rfl rfl ?_
                refine Wk.aload X at_298 300 rfl rfl rfl ?_
                refine Wk.iload X at_300 302 rfl rfl ?_
                refine Wk.callS X (t74 hw) (t75 hw) (t63 hw) (t76 hw) (con_same4 l Z a0 hw [] h14 n0 rq eq (y1) (z1) (y2) (fl) (0) (0) A_rq A_eq) (by decide) pd9 [(.ref rq), (.ref eq), (.int (4 : Int32))] [] rfl rfl rfl rfl 0 (Nat.le_of_eq rfl) (by decide) (by decide) (by decide) (by decide) 13 150 rfl rfl at_302 305 rfl ?_
                rintro _ T _ X ⟨rfl, rfl⟩
                show Wk p.tables e below _ (T.setTop (mkF m 305 #[.val (.int y0), .val (.int z0), .val (.int y1), .val (.int z1), .val (.int y2), .val (.int fl), .val (.ref a), .val (.int (0 : Int32)), .val (.int (1 : Int32)), .val (.int (3 : Int32)), .val (.int (0 : Int32)), .val (.int (1 : Int32)), .val (.int (1 : Int32)), .val (.ref ep), .val (.ref eq), .val (.int (2 : Int32)), .val (.int (4 : Int32)), .val (.ref rp), .val (.ref rq)] [(.int (1 : Int32))]))
                refine Wk.ifcF X at_305 308 rfl (show ¬ (1 : Int32) = (0 : Int32) from (by decide)) ?_
                refine Wk.iconst X at_308 309 rfl (1 : Int32) rfl ?_
                refine Wk.goto X at_309 313 (by decide) ?_
                exact Wk.zreturn X at_313 (by decide) (by decide) (Or.inr rfl) rfl
          · show Wk p.tables e below _ (T.setTop (mkF m 105 #[.val (.int y0), .val (.int z0), .val (.int y1), .val (.int z1), .val (.int y2), .val (.int fl), .val (.ref a), .val (.int (0 : Int32)), .val (.int (1 : Int32)), .val (.int (3 : Int32)), .val (.int (1 : Int32)), .val (.int o1), .val (.int o2), .val (.ref ep), .val (.ref eq), .val (.int (0 : Int32)), .val (.int (0 : Int32)), .unset, .unset] [(.int (1 : Int32)), (.ref a)]))
            refine Wk.ifcF X at_105 108 rfl (show ¬ (1 : Int32) = (0 : Int32) from (by decide)) ?_
            refine Wk.iload X at_108 110 rfl rfl ?_
            refine Wk.goto X at_110 115 (by decide) ?_
            refine Wk.iloadN X at_115 116 rfl rfl ?_
            refine Wk.iloadN X at_116 117 rfl rfl ?_
            refine Wk.callV X (t50 hw) (t51 hw) (t53 hw) (t52 hw) (t2 hw) (t54 hw) S.1.1 (con_addYear0 l Z a0 hw [] h6 n0 a P2 Y0 2 y0 z0 ([-1, -1, -1, -1, -1, -1, -1, -1, -1, -1, -1, -1] : List Int32) ([] : List Int32) 1 1 rfl (by decide) (Nat.le_of_ble_eq_true rfl) (-1) rfl (Or.inl rfl) rfl S) (by decide) pd1 [(.int (1 : Int32)), (.int y0), (.int z0)] [] rfl rfl rfl rfl 0 (Nat.le_of_eq rfl) (by decide) (by decide) (by decide) (by decide) 9 90 rfl rfl at_117 120 rfl ?_
            rintro _ T h7 X ⟨rfl, K, Y1, b1, S⟩
            show Wk p.tables e below _ (T.setTop (mkF m 120 #[.val (.int y0), .val (.int z0), .val (.int y1), .val (.int z1), .val (.int y2), .val (.int fl), .val (.ref a), .val (.int (0 : Int32)), .val (.int (1 : Int32)), .val (.int (3 : Int32)), .val (.int (1 : Int32)), .val (.int o1), .val (.int o2), .val (.ref ep), .val (.ref eq), .val (.int (0 : Int32)), .val (.int (0 : Int32)), .unset, .unset] []))
            rw [lnkP_n, lnkY_n] at S
            replace S : HS Z h7 n0 a P2 Y1 2 1 ([-1, -1, -1, -1, -1, -1, 0, 0, -1, -1, -1, -1] : List Int32) ([y0, z0, -1] : List Int32) := S
            replace nY_ep : Y1 ≠ ep := Ne.symm (far A_ep.lt b1)
            replace A_ep := A_ep.keep K (ninS (Ne.symm na_ep) (ninS (Ne.symm nP_ep) nin0))
            replace nY_eq : Y1 ≠ eq := Ne.symm (far A_eq.lt b1)
            replace A_eq := A_eq.keep K (ninS (Ne.symm na_eq) (ninS (Ne.symm nP_eq) nin0))
            refine Wk.iload X at_120 122 rfl rfl ?_
            refine Wk.ifcF X at_122 125 rfl (show ¬ (1 : Int32) = (0 : Int32) from (by decide)) ?_
            refine Wk.aload X at_125 127 rfl rfl rfl ?_
            refine Wk.iload X at_127 129 rfl rfl ?_
            refine Wk.iloadN X at_129 130 rfl rfl ?_
            refine Wk.iloadN X at_130 131 rfl rfl ?_
            refine Wk.callS X (t61 hw) (t62 hw) (t63 hw) (t64 hw) (con_put0 l Z a0 hw [] h7 n0 eq y0 z0 ([0, 0, 0, 0, 0, 0] : List Int32) rfl n_eq A_eq) (by decide) pd10 [(.ref eq), (.int (0 : Int32)), (.int y0), (.int z0)] [] rfl rfl rfl rfl 0 (Nat.le_of_eq rfl) (by decide) (by decide) (by decide) (by decide) 9 90 rfl rfl at_131 134 rfl ?_
            rintro _ T h8 X ⟨rfl, K, A_eq⟩
            show Wk p.tables e below _ (T.setTop (mkF m 134 #[.val (.int y0), .val (.int z0), .val (.int y1), .val (.int z1), .val (.int y2), .val (.int fl), .val (.ref a), .val (.int (0 : Int32)), .val (.int (1 : Int32)), .val (.int (3 : Int32)), .val (.int (1 : Int32)), .val (.int o1), .val (.int o2), .val (.ref ep), .val (.ref eq), .val (.int (0 : Int32)), .val (.int (0 : Int32)), .unset, .unset] [(.int (2 : Int32))]))
            replace A_eq : Arl Z h8 eq .int (([y0, z0, 0, 0, 0, 0] : List Int32).map Value.int) := A_eq
            replace S := S.keep K (ninS na_eq nin0) (ninS nP_eq nin0) (ninS nY_eq nin0)
            replace A_ep := A_ep.keep K (ninS nee nin0)
            refine Wk.istore X at_134 136 rfl #[.val (.int y0), .val (.int z0), .val (.int y1), .val (.int z1), .val (.int y2), .val (.int fl), .val (.ref a), .val (.int (0 : Int32)), .val (.int (1 : Int32)), .val (.int (3 : Int32)), .val (.int (1 : Int32)), .val (.int o1), .val (.int o2), .val (.ref ep), .val (.ref eq), .val (.int (0 : Int32)), .val (.int (2 : Int32)), .unset, .unset] rfl ?_
            refine Wk.goto X at_136 150 (by decide) ?_
            refine Wk.iload X at_150 152 rfl rfl ?_
            refine Wk.iconst X at_152 153 rfl (2 : Int32) rfl ?_
            refine Wk.icmpF X at_153 156 rfl (show ¬ (3 : Int32) < (2 : Int32) from (by decide)) ?_
            refine Wk.aload X at_156 158 rfl rfl rfl ?_
            refine Wk.iload X at_158 160 rfl rfl ?_
            rcases ho1 with rfl | rfl
            · show Wk p.tables e below _ (T.setTop (mkF m 160 #[.val (.int y0), .val (.int z0), .val (.int y1), .val (.int z1), .val (.int y2), .val (.int fl), .val (.ref a), .val (.int (0 : Int32)), .val (.int (1 : Int32)), .val (.int (3 : Int32)), .val (.int (1 : Int32)), .val (.int (0 : Int32)), .val (.int o2), .val (.ref ep), .val (.ref eq), .val (.int (0 : Int32)), .val (.int (2 : Int32)), .unset, .unset] [(.int (0 : Int32)), (.ref a)]))
              refine Wk.ifcT X at_160 168 (by decide) (show (0 : Int32) = (0 : Int32) from (by decide)) ?_
              refine Wk.iload X at_168 170 rfl rfl ?_
              refine Wk.iloadN X at_170 171 rfl rfl ?_
              refine Wk.iloadN X at_171 172 rfl rfl ?_
              refine Wk.callV X (t50 hw) (t51 hw) (t53 hw) (t52 hw) (t2 hw) (t54 hw) S.1.1 (con_addYear1 l Z a0 hw [] h8 n0 a P2 Y1 2 y1 z1 ([-1, -1, -1, -1, -1, -1, 0, 0, -1, -1, -1, -1] : List Int32) ([y0, z0, -1] : List Int32) 0 0 rfl (by decide) (Nat.le_of_ble_eq_true rfl) (-1) rfl (Or.inl rfl) rfl S) (by decide) pd1 [(.int (0 : Int32)), (.int y1), (.int z1)] [] rfl rfl rfl rfl 0 (Nat.le_of_eq rfl) (by decide) (by decide) (by decide) (by decide) 10 114 rfl rfl at_172 175 rfl ?_
              rintro _ T h9 X ⟨rfl, K, Y2, b2, S⟩
              show Wk p.tables e below _ (T.setTop (mkF m 175 #[.val (.int y0), .val (.int z0), .val (.int y1), .val (.int z1), .val (.int y2), .val (.int fl), .val (.ref a), .val (.int (0 : Int32)), .val (.int (1 : Int32)), .val (.int (3 : Int32)), .val (.int (1 : Int32)), .val (.int (0 : Int32)), .val (.int o2), .val (.ref ep), .val (.ref eq), .val (.int (0 : Int32)), .val (.int (2 : Int32)), .unset, .unset] []))
              rw [lnkP_n, lnkY_n] at S
              replace S : HS Z h9 n0 a P2 Y2 2 2 ([1, 1, -1, -1, -1, -1, 0, 0, -1, -1, -1, -1] : List Int32) ([y0, z0, -1, y1, z1, -1] : List Int32) := S
              replace nY_ep : Y2 ≠ ep := Ne.symm (far A_ep.lt b2)
              replace A_ep := A_ep.keep K (ninS (Ne.symm na_ep) (ninS (Ne.symm nP_ep) nin0))
              replace nY_eq : Y2 ≠ eq := Ne.symm (far A_eq.lt b2)
              replace A_eq := A_eq.keep K (ninS (Ne.symm na_eq) (ninS (Ne.symm nP_eq) nin0))
              refine Wk.iload X at_175 177 rfl rfl ?_
              refine Wk.ifcT X at_177 194 (by decide) (show (0 : Int32) = (0 : Int32) from (by decide)) ?_
              refine Wk.aload X at_194 196 rfl rfl rfl ?_
              refine Wk.iload X at_196 198 rfl rfl ?_
              refine Wk.iloadN X at_198 199 rfl rfl ?_
              refine Wk.iloadN X at_199 200 rfl rfl ?_
              refine Wk.callS X (t61 hw) (t62 hw) (t63 hw) (t64 hw) (con_put0 l Z a0 hw [] h9 n0 ep y1 z1 ([0, 0, 0, 0, 0, 0] : List Int32) rfl n_ep A_ep) (by decide) pd10 [(.ref ep), (.int (0 : Int32)), (.int y1), (.int z1)] [] rfl rfl rfl rfl 0 (Nat.le_of_eq rfl) (by decide) (by decide) (by decide) (by decide) 10 114 rfl rfl at_200 203 rfl ?_
              rintro _ T h10 X ⟨rfl, K, A_ep⟩
              show Wk p.tables e below _ (T.setTop (mkF m 203 #[.val (.int y0), .val (.int z0), .val (.int y1), .val (.int z1), .val (.int y2), .val (.int fl), .val (.ref a), .val (.int (0 : Int32)), .val (.int (1 : Int32)), .val (.int (3 : Int32)), .val (.int (1 : Int32)), .val (.int (0 : Int32)), .val (.int o2), .val (.ref ep), .val (.ref eq), .val (.int (0 : Int32)), .val (.int (2 : Int32)), .unset, .unset] [(.int (2 : Int32))]))
              replace A_ep : Arl Z h10 ep .int (([y1, z1, 0, 0, 0, 0] : List Int32).map Value.int) := A_ep
              replace S := S.keep K (ninS na_ep nin0) (ninS nP_ep nin0) (ninS nY_ep nin0)
              replace A_eq := A_eq.keep K (ninS (Ne.symm nee) nin0)
              refine Wk.istore X at_203 205 rfl #[.val (.int y0), .val (.int z0), .val (.int y1), .val (.int z1), .val (.int y2), .val (.int fl), .val (.ref a), .val (.int (0 : Int32)), .val (.int (1 : Int32)), .val (.int (3 : Int32)), .val (.int (1 : Int32)), .val (.int (0 : Int32)), .val (.int o2), .val (.ref ep), .val (.ref eq), .val (.int (2 : Int32)), .val (.int (2 : Int32)), .unset, .unset] rfl ?_
              refine Wk.iload X at_205 207 rfl rfl ?_
              refine Wk.iconst X at_207 208 rfl (3 : Int32) rfl ?_
              refine Wk.icmpF X at_208 211 rfl (show ¬ (3 : Int32) < (3 : Int32) from (by decide)) ?_
              refine Wk.aload X at_211 213 rfl rfl rfl ?_
              refine Wk.iload X at_213 215 rfl rfl ?_
              rcases ho2 with rfl | rfl
              · show Wk p.tables e below _ (T.setTop (mkF m 215 #[.val (.int y0), .val (.int z0), .val (.int y1), .val (.int z1), .val (.int y2), .val (.int fl), .val (.ref a), .val (.int (0 : Int32)), .val (.int (1 : Int32)), .val (.int (3 : Int32)), .val (.int (1 : Int32)), .val (.int (0 : Int32)), .val (.int (0 : Int32)), .val (.ref ep), .val (.ref eq), .val (.int (2 : Int32)), .val (.int (2 : Int32)), .unset, .unset] [(.int (0 : Int32)), (.ref a)]))
                refine Wk.ifcT X at_215 223 (by decide) (show (0 : Int32) = (0 : Int32) from (by decide)) ?_
                refine Wk.iload X at_223 225 rfl rfl ?_
                refine Wk.iload X at_225 227 rfl rfl ?_
                refine Wk.iload X at_227 229 rfl rfl ?_
                refine Wk.callV X (t50 hw) (t51 hw) (t53 hw) (t52 hw) (t2 hw) (t54 hw) S.1.1 (con_addYear2 l Z a0 hw [] h10 n0 a P2 Y2 2 y2 fl ([1, 1, -1, -1, -1, -1, 0, 0, -1, -1, -1, -1] : List Int32) ([y0, z0, -1, y1, z1, -1] : List Int32) 0 0 rfl (by decide) (Nat.le_of_ble_eq_true rfl) (1) rfl (Or.inr ⟨1, rfl, by decide⟩) rfl S) (by decide) pd1 [(.int (0 : Int32)), (.int y2), (.int fl)] [] rfl rfl rfl rfl 0 (Nat.le_of_eq rfl) (by decide) (by decide) (by decide) (by decide) 11 138 rfl rfl at_229 232 rfl ?_
                rintro _ T h11 X ⟨rfl, K, Y3, b3, S⟩
                show Wk p.tables e below _ (T.setTop (mkF m 232 #[.val (.int y0), .val (.int z0), .val (.int y1), .val (.int z1), .val (.int y2), .val (.int fl), .val (.ref a), .val (.int (0 : Int32)), .val (.int (1 : Int32)), .val (.int (3 : Int32)), .val (.int (1 : Int32)), .val (.int (0 : Int32)), .val (.int (0 : Int32)), .val (.ref ep), .val (.ref eq), .val (.int (2 : Int32)), .val (.int (2 : Int32)), .unset, .unset] []))
                rw [lnkP_s (v := 1) (by decide), lnkY_s (v := 1) (by decide)] at S
                replace S : HS Z h11 n0 a P2 Y3 2 3 ([1, 2, -1, -1, -1, -1, 0, 0, -1, -1, -1, -1] : List Int32) ([y0, z0, -1, y1, z1, 2, y2, fl, -1, 0, 0, 0] : List Int32) := S
                replace nY_ep : Y3 ≠ ep := Ne.symm (far A_ep.lt b3)
                replace A_ep := A_ep.keep K (ninS (Ne.symm na_ep) (ninS (Ne.symm nP_ep) nin0))
                replace nY_eq : Y3 ≠ eq := Ne.symm (far A_eq.lt b3)
                replace A_eq := A_eq.keep K (ninS (Ne.symm na_eq) (ninS (Ne.symm nP_eq) nin0))
                refine Wk.iload X at_232 234 rfl rfl ?_
                refine Wk.ifcT X at_234 253 (by decide) (show (0 : Int32) = (0 : Int32) from (by decide)) ?_
                refine Wk.aload X at_253 255 rfl rfl rfl ?_
                refine Wk.iload X at_255 257 rfl rfl ?_
                refine Wk.iload X at_257 259 rfl rfl ?_
                refine Wk.iload X at_259 261 rfl rfl ?_
                refine Wk.callS X (t61 hw) (t62 hw) (t63 hw) (t64 hw) (con_put2 l Z a0 hw [] h11 n0 ep y2 fl ([y1, z1, 0, 0, 0, 0] : List Int32) rfl n_ep A_ep) (by decide) pd10 [(.ref ep), (.int (2 : Int32)), (.int y2), (.int fl)] [] rfl rfl rfl rfl 0 (Nat.le_of_eq rfl) (by decide) (by decide) (by decide) (by decide) 11 138 rfl rfl at_261 264 rfl ?_
                rintro _ T h12 X ⟨rfl, K, A_ep⟩
                show Wk p.tables e below _ (T.setTop (mkF m 264 #[.val (.int y0), .val (.int z0), .val (.int y1), .val (.int z1), .val (.int y2), .val (.int fl), .val (.ref a), .val (.int (0 : Int32)), .val (.int (1 : Int32)), .val (.int (3 : Int32)), .val (.int (1 : Int32)), .val (.int (0 : Int32)), .val (.int (0 : Int32)), .val (.ref ep), .val (.ref eq), .val (.int (2 : Int32)), .val (.int (2 : Int32)), .unset, .unset] [(.int (4 : Int32))]))
                replace A_ep : Arl Z h12 ep .int (([y1, z1, y2, fl, 0, 0] : List Int32).map Value.int) := A_ep
                replace S := S.keep K (ninS na_ep nin0) (ninS nP_ep nin0) (ninS nY_ep nin0)
                replace A_eq := A_eq.keep K (ninS (Ne.symm nee) nin0)
                refine Wk.istore X at_264 266 rfl #[.val (.int y0), .val (.int z0), .val (.int y1), .val (.int z1), .val (.int y2), .val (.int fl), .val (.ref a), .val (.int (0 : Int32)), .val (.int (1 : Int32)), .val (.int (3 : Int32)), .val (.int (1 : Int32)), .val (.int (0 : Int32)), .val (.int (0 : Int32)), .val (.ref ep), .val (.ref eq), .val (.int (4 : Int32)), .val (.int (2 : Int32)), .unset, .unset] rfl ?_
                refine Wk.aload X at_266 268 rfl rfl rfl ?_
                refine Wk.iload X at_268 270 rfl rfl ?_
                refine Wk.callV X (t65 hw) (t66 hw) (t68 hw) (t67 hw) (t2 hw) (t69 hw) S.1.1 (con_yah_12 l Z a0 hw [] h12 n0 a P2 Y3 2 3 ([1, 2, -1, -1, -1, -1, 0, 0, -1, -1, -1, -1] : List Int32) ([y0, z0, -1, y1, z1, 2, y2, fl, -1, 0, 0, 0] : List Int32) 0 0 rfl (by decide) (Nat.le_of_ble_eq_true rfl) rfl y1 z1 rfl rfl rfl y2 fl rfl rfl rfl S) (by decide) pd8 [(.int (0 : Int32))] [] rfl rfl rfl rfl 0 (Nat.le_of_eq rfl) (by decide) (by decide) (by decide) (by decide) 12 144 rfl rfl at_270 273 rfl ?_
                rintro _ T h13 X ⟨rp, rfl, -, K, A_rp⟩
                show Wk p.tables e below _ (T.setTop (mkF m 273 #[.val (.int y0), .val (.int z0), .val (.int y1), .val (.int z1), .val (.int y2), .val (.int fl), .val (.ref a), .val (.int (0 : Int32)), .val (.int (1 : Int32)), .val (.int (3 : Int32)), .val (.int (1 : Int32)), .val (.int (0 : Int32)), .val (.int (0 : Int32)), .val (.ref ep), .val (.ref eq), .val (.int (4 : Int32)), .val (.int (2 : Int32)), .unset, .unset] [(.ref rp)]))
                replace A_ep := A_ep.keep K nin0
                replace A_eq := A_eq.keep K nin0
                replace S := S.keep K nin0 nin0 nin0
                refine Wk.astore X at_273 275 rfl #[.val (.int y0), .val (.int z0), .val (.int y1), .val (.int z1), .val (.int y2), .val (.int fl), .val (.ref a), .val (.int (0 : Int32)), .val (.int (1 : Int32)), .val (.int (3 : Int32)), .val (.int (1 : Int32)), .val (.int (0 : Int32)), .val (.int (0 : Int32)), .val (.ref ep), .val (.ref eq), .val (.int (4 : Int32)), .val (.int (2 : Int32)), .val (.ref rp), .unset] rfl rfl ?_
                refine Wk.aload X at_275 277 rfl rfl rfl ?_
                refine Wk.iload X at_277 279 rfl rfl ?_
                refine Wk.callV X (t65 hw) (t66 hw) (t68 hw) (t67 hw) (t2 hw) (t69 hw) S.1.1 (con_yah_0 l Z a0 hw [] h13 n0 a P2 Y3 2 3 ([1, 2, -1, -1, -1, -1, 0, 0, -1, -1, -1, -1] : List Int32) ([y0, z0, -1, y1, z1, 2, y2, fl, -1, 0, 0, 0] : List Int32) 1 1 rfl (by decide) (Nat.le_of_ble_eq_true rfl) rfl y0 z0 rfl rfl rfl S) (by decide) pd8 [(.int (1 : Int32))] [] rfl rfl rfl rfl 0 (Nat.le_of_eq rfl) (by decide) (by decide) (by decide) (by decide) 13 150 rfl rfl at_279 282 rfl ?_
                rintro _ T h14 X ⟨rq, rfl, -, K, A_rq⟩
                show Wk p.tables e below _ (T.setTop (mkF m 282 #[.val (.int y0), .val (.int z0), .val (.int y1), .val (.int z1), .val (.int y2), .val (.int fl), .val (.ref a), .val (.int (0 : Int32)), .val (.int (1 : Int32)), .val (.int (3 : Int32)), .val (.int (1 : Int32)), .val (.int (0 : Int32)), .val (.int (0 : Int32)), .val (.ref ep), .val (.ref eq), .val (.int (4 : Int32)), .val (.int (2 : Int32)), .val (.ref rp), .unset] [(.ref rq)]))
                replace A_ep := A_ep.keep K nin0
                replace A_eq := A_eq.keep K nin0
                replace A_rp := A_rp.keep K nin0
                refine Wk.astore X at_282 284 rfl #[.val (.int y0), .val (.int z0), .val (.int y1), .val (.int z1), .val (.int y2), .val (.int fl), .val (.ref a), .val (.int (0 : Int32)), .val (.int (1 : Int32)), .val (.int (3 : Int32)), .val (.int (1 : Int32)), .val (.int (0 : Int32)), .val (.int (0 : Int32)), .val (.ref ep), .val (.ref eq), .val (.int (4 : Int32)), .val (.int (2 : Int32)), .val (.ref rp), .val (.ref rq)] rfl rfl ?_
                refine Wk.aload X at_284 286 rfl rfl rfl ?_
                refine Wk.aload X at_286 288 rfl rfl rfl ?_
                refine Wk.iload X at_288 290 rfl rfl ?_
                refine Wk.callS X (t74 hw) (t75 hw) (t63 hw) (t76 hw) (con_same4 l Z a0 hw [] h14 n0 rp ep (y1) (z1) (y2) (fl) (0) (0) A_rp A_ep) (by decide) pd9 [(.ref rp), (.ref ep), (.int (4 : Int32))] [] rfl rfl rfl rfl 0 (Nat.le_of_eq rfl) (by decide) (by decide) (by decide) (by decide) 13 150 rfl rfl at_290 293 rfl ?_
                rintro _ T _ X ⟨rfl, rfl⟩
                show Wk p.tables e below _ (T.setTop (mkF m 293 #[.val (.int y0), .val (.int z0), .val (.int y1), .val (.int z1), .val (.int y2), .val (.int fl), .val (.ref a), .val (.int (0 : Int32)), .val (.int (1 : Int32)), .val (.int (3 : Int32)), .val (.int (1 : Int32)), .val (.int (0 : Int32)), .val (.int (0 : Int32)), .val (.ref ep), .val (.ref eq), .val (.int (4 : Int32)), .val (.int (2 : Int32)), .val (.ref rp), .val (.ref rq)] [(.int (1 : Int32))]))
                refine Wk.ifcF X at_293 296 rfl (show ¬ (1 : Int32) = (0 : Int32) from (by decide)) ?_
                refine Wk.aload X at_296 298 rfl rfl rfl ?_
                refine Wk.aload X at_298 300 rfl rfl rfl ?_
                refine Wk.iload X at_300 302 rfl rfl ?_
                refine Wk.callS X (t74 hw) (t75 hw) (t63 hw) (t76 hw) (con_same2 l Z a0 hw [] h14 n0 rq eq (y0) (z0) (0) (0) (0) (0) A_rq A_eq) (by decide) pd9 [(.ref rq), (.ref eq), (.int (2 : Int32))] [] rfl rfl rfl rfl 0 (Nat.le_of_eq rfl) (by decide) (by decide) (by decide) (by decide) 13 150 rfl rfl at_302 305 rfl ?_
                rintro _ T _ X ⟨rfl, rfl⟩
                show Wk p.tables e below _ (T.setTop (mkF m 305 #[.val (.int y0), .val (.int z0), .val (.int y1), .val (.int z1), .val (.int y2), .val (.int fl), .val (.ref a), .val (.int (0 : Int32)), .val (.int (1 : Int32)), .val (.int (3 : Int32)), .val (.int (1 : Int32)), .val (.int (0 : Int32)), .val (.int (0 : Int32)), .val (.ref ep), .val (.ref eq), .val (.int (4 : Int32)), .val (.int (2 : Int32)), .val (.ref rp), .val (.ref rq)] [(.int (1 : Int32))]))
                refine Wk.ifcF X at_305 308 rfl (show ¬ (1 : Int32) = (0 : Int32) from (by decide)) ?_
                refine Wk.iconst X at_308 309 rfl (1 : Int32) rfl ?_
                refine Wk.goto X at_309 313 (by decide) ?_
                exact Wk.zreturn X at_313 (by decide) (by decide) (Or.inr rfl) rfl
              · show Wk p.tables e below _ (T.setTop (mkF m 215 #[.val (.int y0), .val (.int z0), .val (.int y1), .val (.int z1), .val (.int y2), .val (.int fl), .val (.ref a), .val (.int (0 : Int32)), .val (.int (1 : Int32)), .val (.int (3 : Int32)), .val (.int (1 : Int32)), .val (.int (0 : Int32)), .val (.int (1 : Int32)), .val (.ref ep), .val (.ref eq), .val (.int (2 : Int32)), .val (.int (2 : Int32)), .unset, .unset] [(.int (1 : Int32)), (.ref a)]))
                refine Wk.ifcF X at_215 218 rfl (show ¬ (1 : Int32) = (0 : Int32) from (by decide)) ?_
                refine Wk.iload X at_218 220 rfl rfl ?_
                refine Wk.goto X at_220 225 (by decide) ?_
                refine Wk.iload X at_225 227 rfl rfl ?_
                refine Wk.iload X at_227 229 rfl rfl ?_
                refine Wk.callV X (t50 hw) (t51 hw) (t53 hw) (t52 hw) (t2 hw) (t54 hw) S.1.1 (con_addYear2 l Z a0 hw [] h10 n0 a P2 Y2 2 y2 fl ([1, 1, -1, -1, -1, -1, 0, 0, -1, -1, -1, -1] : List Int32) ([y0, z0, -1, y1, z1, -1] : List Int32) 1 1 rfl (by decide) (Nat.le_of_ble_eq_true rfl) (0) rfl (Or.inr ⟨0, rfl, by decide⟩) rfl S) (by decide) pd1 [(.int (1 : Int32)), (.int y2), (.int fl)] [] rfl rfl rfl rfl 0 (Nat.le_of_eq rfl) (by decide) (by decide) (by decide) (by decide) 11 138 rfl rfl at_229 232 rfl ?_
                rintro _ T h11 X ⟨rfl, K, Y3, b3, S⟩
                show Wk p.tables e below _ (T.setTop (mkF m 232 #[.val (.int y0), .val (.int z0), .val (.int y1), .val (.int z1), .val (.int y2), .val (.int fl), .val (.ref a), .val (.int (0 : Int32)), .val (.int (1 : Int32)), .val (.int (3 : Int32)), .val (.int (1 : Int32)), .val (.int (0 : Int32)), .val (.int (1 : Int32)), .val (.ref ep), .val (.ref eq), .val (.int (2 : Int32)), .val (.int (2 : Int32)), .unset, .unset] []))
                rw [lnkP_s (v := 0) (by decide), lnkY_s (v := 0) (by decide)] at S
                replace S : HS Z h11 n0 a P2 Y3 2 3 ([1, 1, -1, -1, -1, -1, 0, 2, -1, -1, -1, -1] : List Int32) ([y0, z0, 2, y1, z1, -1, y2, fl, -1, 0, 0, 0] : List Int32) := S
                replace nY_ep : Y3 ≠ ep := Ne.symm (far A_ep.lt b3)
                replace A_ep := A_ep.keep K (ninS (Ne.symm na_ep) (ninS (Ne.symm nP_ep) nin0))
                replace nY_eq : Y3 ≠ eq := Ne.symm (far A_eq.lt b3)
                replace A_eq := A_eq.keep K (ninS (Ne.symm na_eq) (ninS (Ne.symm nP_eq) nin0))
                refine Wk.iload X at_232 234 rfl rfl ?_
                refine Wk.ifcF X at_234 237 rfl (show ¬ (1 : Int32) = (0 : Int32) from (by decide)) ?_
                refine Wk.aload X at_237 239 rfl rfl rfl ?_
                refine Wk.iload X at_239 241 rfl rfl ?_
                refine Wk.iload X at_241 243 rfl rfl ?_
                refine Wk.iload X at_243 245 rfl rfl ?_
                refine Wk.callS X (t61 hw) (t62 hw) (t63 hw) (t64 hw) (con_put2 l Z a0 hw [] h11 n0 eq y2 fl ([y0, z0, 0, 0, 0, 0] : List Int32) rfl n_eq A_eq) (by decide) pd10 [(.ref eq), (.int (2 : Int32)), (.int y2), (.int fl)] [] rfl rfl rfl rfl 0 (Nat.le_of_eq rfl) (by decide) (by decide) (by decide) (by decide) 11 138 rfl rfl at_245 248 rfl ?_
                rintro _ T h12 X ⟨rfl, K, A_eq⟩
                show Wk p.tables e below _ (T.setTop (mkF m 248 #[.val (.int y0), .val (.int z0), .val (.int y1), .val (.int z1), .val (.int y2), .val (.int fl), .val (.ref a), .val (.int (0 : Int32)), .val (.int (1 : Int32)), .val (.int (3 : Int32)), .val (.int (1 : Int32)), .val (.int (0 : Int32)), .val (.int (1 : Int32)), .val (.ref ep), .val (.ref eq), .val (.int (2 : Int32)), .val (.int (2 : Int32)), .unset, .unset] [(.int (4 : Int32))]))
                replace A_eq : Arl Z h12 eq .int (([y0, z0, y2, fl, 0, 0] : List Int32).map Value.int) := A_eq
                replace S := S.keep K (ninS na_eq nin0) (ninS nP_eq nin0) (ninS nY_eq nin0)
                replace A_ep := A_ep.keep K (ninS nee nin0)
                refine Wk.istore X at_248 250 rfl #[.val (.int y0), .val (.int z0), .val (.int y1), .val (.int z1), .val (.int y2), .val (.int fl), .val (.ref a), .val (.int (0 : Int32)), .val (.int (1 : Int32)), .val (.int (3 : Int32)), .val (.int (1 : Int32)), .val (.int (0 : Int32)), .val (.int (1 : Int32)), .val (.ref ep), .val (.ref eq), .val (.int (2 : Int32)), .val (.int (4 : Int32)), .unset, .unset] rfl ?_
                refine Wk.goto X at_250 266 (by decide) ?_
                refine Wk.aload X at_266 268 rfl rfl rfl ?_
                refine Wk.iload X at_268 270 rfl rfl ?_
                refine Wk.callV X (t65 hw) (t66 hw) (t68 hw) (t67 hw) (t2 hw) (t69 hw) S.1.1 (con_yah_1 l Z a0 hw [] h12 n0 a P2 Y3 2 3 ([1, 1, -1, -1, -1, -1, 0, 2, -1, -1, -1, -1] : List Int32) ([y0, z0, 2, y1, z1, -1, y2, fl, -1, 0, 0, 0] : List Int32) 0 0 rfl (by decide) (Nat.le_of_ble_eq_true rfl) rfl y1 z1 rfl rfl rfl S) (by decide) pd8 [(.int (0 : Int32))] [] rfl rfl rfl rfl 0 (Nat.le_of_eq rfl) (by decide) (by decide) (by decide) (by decide) 12 144 rfl rfl at_270 273 rfl ?_
                rintro _ T h13 X ⟨rp, rfl, -, K, A_rp⟩
                show Wk p.tables e below _ (T.setTop (mkF m 273 #[.val (.int y0), .val (.int z0), .val (.int y1), .val (.int z1), .val (.int y2), .val (.int fl), .val (.ref a), .val (.int (0 : Int32)), .val (.int (1 : Int32)), .val (.int (3 : Int32)), .val (.int (1 : Int32)), .val (.int (0 : Int32)), .val (.int (1 : Int32)), .val (.ref ep), .val (.ref eq), .val (.int (2 : Int32)), .val (.int (4 : Int32)), .unset, .unset] [(.ref rp)]))
                replace A_ep := A_ep.keep K nin0
                replace A_eq := A_eq.keep K nin0
                replace S := S.keep K nin0 nin0 nin0
                refine Wk.astore X at_273 275 rfl #[.val (.int y0), .val (.int z0), .val (.int y1), .val (.int z1), .val (.int y2), .val (.int fl), .val (.ref a), .val (.int (0 : Int32)), .val (.int (1 : Int32)), .val (.int (3 : Int32)), .val (.int (1 : Int32)), .val (.int (0 : Int32)), .val (.int (1 : Int32)), .val (.ref ep), .val (.ref eq), .val (.int (2 : Int32)), .val (.int (4 : Int32)), .val (.ref rp), .unset] rfl rfl ?_
                refine Wk.aload X at_275 277 rfl rfl rfl ?_
                refine Wk.iload X at_277 279 rfl rfl ?_
                refine Wk.callV X (t65 hw) (t66 hw) (t68 hw) (t67 hw) (t2 hw) (t69 hw) S.1.1 (con_yah_02 l Z a0 hw [] h13 n0 a P2 Y3 2 3 ([1, 1, -1, -1, -1, -1, 0, 2, -1, -1, -1, -1] : List Int32) ([y0, z0, 2, y1, z1, -1, y2, fl, -1, 0, 0, 0] : List Int32) 1 1 rfl (by decide) (Nat.le_of_ble_eq_true rfl) rfl y0 z0 rfl rfl rfl y2 fl rfl rfl rfl S) (by decide) pd8 [(.int (1 : Int32))] [] rfl rfl rfl rfl 0 (Nat.le_of_eq rfl) (by decide) (by decide) (by decide) (by decide) 13 150 rfl rfl at_279 282 rfl ?_
                rintro _ T h14 X ⟨rq, rfl, -, K, A_rq⟩
                show Wk p.tables e below _ (T.setTop (mkF m 282 #[.val (.int y0), .val (.int z0), .val (.int y1), .val (.int z1), .val (.int y2), .val (.int fl), .val (.ref a), .val (.int (0 : Int32)), .val (.int (1 : Int32)), .val (.int (3 : Int32)), .val (.int (1 : Int32)), .val (.int (0 : Int32)), .val (.int (1 : Int32)), .val (.ref ep), .val (.ref eq), .val (.int (2 : Int32)), .val (.int (4 : Int32)), .val (.ref rp), .unset] [(.ref rq)]))
                replace A_ep := A_ep.keep K nin0
                replace A_eq := A_eq.keep K nin0
                replace A_rp := A_rp.keep K nin0
                refine Wk.astore X at_282 284 rfl #[.val (.int y0), .val (.int z0), .val (.int y1), .val (.int z1), .val (.int y2), .val (.int fl), .val (.ref a), .val (.int (0 : Int32)), .val (.int (1 : Int32)), .val (.int (3 : Int32)), .val (.int (1 : Int32)), .val (.int (0 : Int32)), .val (.int (1 : Int32)), .val (.ref ep), .val (.ref eq), .val (.int (2 : Int32)), .val (.int (4 : Int32)), .val (.ref rp), .val (.ref rq)] rfl rfl ?_
                refine Wk.aload X at_284 286 rfl rfl rfl ?_
                refine Wk.aload X at_286 288 rfl rfl rfl ?_
                refine Wk.iload X at_288 290 rfl rfl ?_
                refine Wk.callS X (t74 hw) (t75 hw) (t63 hw) (t76 hw) (con_same2 l Z a0 hw [] h14 n0 rp ep (y1) (z1) (0) (0) (0) (0) A_rp A_ep) (by decide) pd9 [(.ref rp), (.ref ep), (.int (2 : Int32))] [] rfl rfl rfl rfl 0 (Nat.le_of_eq rfl) (by decide) (by decide) (by decide) (by decide) 13 150 rfl rfl at_290 293 rfl ?_
                rintro _ T _ X ⟨rfl, rfl⟩
                show Wk p.tables e below _ (T.setTop (mkF m 293 #[.val (.int y0), .val (.int z0), .val (.int y1), .val (.int z1), .val (.int y2), .val (.int fl), .val (.ref a), .val (.int (0 : Int32)), .val (.int (1 : Int32)), .val (.int (3 : Int32)), .val (.int (1 : Int32)), .val (.int (0 : Int32)), .val (.int (1 : Int32)), .val (.ref ep), .val (.ref eq), .val (.int (2 : Int32)), .val (.int (4 : Int32)), .val (.ref rp), .val (.ref rq)] [(.int (1 : Int32))]))
                refine Wk.ifcF X at_293 296 rfl (show ¬ (1 : Int32) = (0 : Int32) from (by decide)) ?_
                refine Wk.aload X at_296 298 rfl rfl rfl ?_
                refine Wk.aload X at_298 300 rfl rfl rfl ?_
                refine Wk.iload X at_300 302 rfl rfl ?_
                refine Wk.callS X (t74 hw) (t75 hw) (t63 hw) (t76 hw) (con_same4 l Z a0 hw [] h14 n0 rq eq (y0) (z0) (y2) (fl) (0) (0) A_rq A_eq) (by decide) pd9 [(.ref rq), (.ref eq), (.int (4 : Int32))] [] rfl rfl rfl rfl 0 (Nat.le_of_eq rfl) (by decide) (by decide) (by decide) (by decide) 13 150 rfl rfl at_302 305 rfl ?_
                rintro _ T _ X ⟨rfl, rfl⟩
                show Wk p.tables e below _ (T.setTop (mkF m 305 #[.val (.int y0), .val (.int z0), .val (.int y1), .val (.int z1), .val (.int y2), .val (.int fl), .val (.ref a), .val (.int (0 : Int32)), .val (.int (1 : Int32)), .val (.int (3 : Int32)), .val (.int (1 : Int32)), .val (.int (0 : Int32)), .val (.int (1 : Int32)), .val (.ref ep), .val (.ref eq), .val (.int (2 : Int32)), .val (.int (4 : Int32)), .val (.ref rp), .val (.ref rq)] [(.int (1 : Int32))]))
                refine Wk.ifcF X at_305 308 rfl (show ¬ (1 : Int32) = (0 : Int32) from (by decide)) ?_
                refine Wk.iconst X at_308 309 rfl (1 : Int32) rfl ?_
                refine Wk.goto X at_309 313 (by decide) ?_
                exact Wk.zreturn X at_313 (by decide) (by decide) (Or.inr rfl) rfl
            · show Wk p.tables e below _ (T.setTop (mkF m 160 #[.val (.int y0), .val (.int z0), .val (.int y1), .val (.int z1), .val (.int y2), .val (.int fl), .val (.ref a), .val (.int (0 : Int32)), .val (.int (1 : Int32)), .val (.int (3 : Int32)), .val (.int (1 : Int32)), .val (.int (1 : Int32)), .val (.int o2), .val (.ref ep), .val (.ref eq), .val (.int (0 : Int32)), .val (.int (2 : Int32)), .unset, .unset] [(.int (1 : Int32)), (.ref a)]))
              refine Wk.ifcF X at_160 163 rfl (show ¬ (1 : Int32) = (0 : Int32) from (by decide)) ?_
              refine Wk.iload X at_163 165 rfl rfl ?_
              refine Wk.goto X at_165 170 (by decide) ?_
              refine Wk.iloadN X at_170 171 rfl rfl ?_
              refine Wk.iloadN X at_171 172 rfl rfl ?_
              refine Wk.callV X (t50 hw) (t51 hw) (t53 hw) (t52 hw) (t2 hw) (t54 hw) S.1.1 (con_addYear1 l Z a0 hw [] h8 n0 a P2 Y1 2 y1 z1 ([-1, -1, -1, -1, -1, -1, 0, 0, -1, -1, -1, -1] : List Int32) ([y0, z0, -1] : List Int32) 1 1 rfl (by decide) (Nat.le_of_ble_eq_true rfl) (0) rfl (Or.inr ⟨0, rfl, by decide⟩) rfl S) (by decide) pd1 [(.int (1 : Int32)), (.int y1), (.int z1)] [] rfl rfl rfl rfl 0 (Nat.le_of_eq rfl) (by decide) (by decide) (by decide) (by decide) 10 114 rfl rfl at_172 175 rfl ?_
              rintro _ T h9 X ⟨rfl, K, Y2, b2, S⟩
              show Wk p.tables e below _ (T.setTop (mkF m 175 #[.val (.int y0), .val (.int z0), .val (.int y1), .val (.int z1), .val (.int y2), .val (.int fl), .val (.ref a), .val (.int (0 : Int32)), .val (.int (1 : Int32)), .val (.int (3 : Int32)), .val (.int (1 : Int32)), .val (.int (1 : Int32)), .val (.int o2), .val (.ref ep), .val (.ref eq), .val (.int (0 : Int32)), .val (.int (2 : Int32)), .unset, .unset] []))
              rw [lnkP_s (v := 0) (by decide), lnkY_s (v := 0) (by decide)] at S
              replace S : HS Z h9 n0 a P2 Y2 2 2 ([-1, -1, -1, -1, -1, -1, 0, 1, -1, -1, -1, -1] : List Int32) ([y0, z0, 1, y1, z1, -1] : List Int32) := S
              replace nY_ep : Y2 ≠ ep := Ne.symm (far A_ep.lt b2)
              replace A_ep := A_ep.keep K (ninS (Ne.symm na_ep) (ninS (Ne.symm nP_ep) nin0))
              replace nY_eq : Y2 ≠ eq := Ne.symm (far A_eq.lt b2)
              replace A_eq := A_eq.keep K (ninS (Ne.symm na_eq) (ninS (Ne.symm nP_eq) nin0))
              refine Wk.iload X at_175 177 rfl rfl ?_
              refine Wk.ifcF X at_177 180 rfl (show ¬ (1 : Int32) = (0 : Int32) from (by decide)) ?_
              refine Wk.aload X at_180 182 rfl rfl rfl ?_
              refine Wk.iload X at_182 184 rfl rfl ?_
              refine Wk.iloadN X at_184 185 rfl rfl ?_
              refine Wk.iloadN X at_185 186 rfl rfl ?_
              refine Wk.callS X (t61 hw) (t62 hw) (t63 hw) (t64 hw) (con_put2 l Z a0 hw [] h9 n0 eq y1 z1 ([y0, z0, 0, 0, 0, 0] : List Int32) rfl n_eq A_eq) (by decide) pd10 [(.ref eq), (.int (2 : Int32)), (.int y1), (.int z1)] [] rfl rfl rfl rfl 0 (Nat.le_of_eq rfl) (by decide) (by decide) (by decide) (by decide) 10 114 rfl rfl at_186 189 rfl ?_
              rintro _ T h10 X ⟨rfl, K, A_eq⟩
              show Wk p.tables e below _ (T.setTop (mkF m 189 #[.val (.int y0), .val (.int z0), .val (.int y1), .val (.int z1), .val (.int y2), .val (.int fl), .val (.ref a), .val (.int (0 : Int32)), .val (.int (1 : Int32)), .val (.int (3 : Int32)), .val (.int (1 : Int32)), .val (.int (1 : Int32)), .val (.int o2), .val (.ref ep), .val (.ref eq), .val (.int (0 : Int32)), .val (.int (2 : Int32)), .unset, .unset] [(.int (4 : Int32))]))
              replace A_eq : Arl Z h10 eq .int (([y0, z0, y1, z1, 0, 0] : List Int32).map Value.int) := A_eq
              replace S := S.keep K (ninS na_eq nin0) (ninS nP_eq nin0) (ninS nY_eq nin0)
              replace A_ep := A_ep.keep K (ninS nee nin0)
              refine Wk.istore X at_189 191 rfl #[.val (.int y0), .val (.int z0), .val (.int y1), .val (.int z1), .val (.int y2), .val (.int fl), .val (.ref a), .val (.int (0 : Int32)), .val (.int (1 : Int32)), .val (.int (3 : Int32)), .val (.int (1 : Int32)), .val (.int (1 : Int32)), .val (.int o2), .val (.ref ep), .val (.ref eq), .val (.int (0 : Int32)), .val (.int (4 : Int32)), .unset, .unset] rfl ?_
              refine Wk.goto X at_191 205 (by decide) ?_
              refine Wk.iload X at_205 207 rfl rfl ?_
              refine Wk.iconst X at_207 208 rfl (3 : Int32) rfl ?_
              refine Wk.icmpF X at_208 211 rfl (show ¬ (3 : Int32) < (3 : Int32) from (by decide)) ?_
              refine Wk.aload X at_211 213 rfl rfl rfl ?_
              refine Wk.iload X at_213 215 rfl rfl ?_
              rcases ho2 with rfl | rfl
              · show Wk p.tables e below _ (T.setTop (mkF m 215 #[.val (.int y0), .val (.int z0), .val (.int y1), .val (.int z1), .val (.int y2), .val (.int fl), .val (.ref a), .val (.int (0 : Int32)), .val (.int (1 : Int32)), .val (.int (3 : Int32)), .val (.int (1 : Int32)), .val (.int (1 : Int32)), .val (.int (0 : Int32)), .val (.ref ep), .val (.ref eq), .val (.int (0 : Int32)), .val (.int (4 : Int32)), .unset, .unset] [(.int (0 : Int32)), (.ref a)]))
                refine Wk.ifcT X at_215 223 (by decide) (show (0 : Int32) = (0 : Int32) from (by decide)) ?_
                refine Wk.iload X at_223 225 rfl rfl ?_
                refine Wk.iload X at_225 227 rfl rfl ?_
                refine Wk.iload X at_227 229 rfl rfl ?_
                refine Wk.callV X (t50 hw) (t51 hw) (t53 hw) (t52 hw) (t2 hw) (t54 hw) S.1.1 (con_addYear2 l Z a0 hw [] h10 n0 a P2 Y2 2 y2 fl ([-1, -1, -1, -1, -1, -1, 0, 1, -1, -1, -1, -1] : List Int32) ([y0, z0, 1, y1, z1, -1] : List Int32) 0 0 rfl (by decide) (Nat.le_of_ble_eq_true rfl) (-1) rfl (Or.inl rfl) rfl S) (by decide) pd1 [(.int (0 : Int32)), (.int y2), (.int fl)] [] rfl rfl rfl rfl 0 (Nat.le_of_eq rfl) (by decide) (by decide) (by decide) (by decide) 11 138 rfl rfl at_229 232 rfl ?_
                rintro _ T h11 X ⟨rfl, K, Y3, b3, S⟩
                show Wk p.tables e below _ (T.setTop (mkF m 232 #[.val (.int y0), .val (.int z0), .val (.int y1), .val (.int z1), .val (.int y2), .val (.int fl), .val (.ref a), .val (.int (0 : Int32)), .val (.int (1 : Int32)), .val (.int (3 : Int32)), .val (.int (1 : Int32)), .val (.int (1 : Int32)), .val (.int (0 : Int32)), .val (.ref ep), .val (.ref eq), .val (.int (0 : Int32)), .val (.int (4 : Int32)), .unset, .unset] []))
                rw [lnkP_n, lnkY_n] at S
                replace S : HS Z h11 n0 a P2 Y3 2 3 ([2, 2, -1, -1, -1, -1, 0, 1, -1, -1, -1, -1] : List Int32) ([y0, z0, 1, y1, z1, -1, y2, fl, -1, 0, 0, 0] : List Int32) := S
                replace nY_ep : Y3 ≠ ep := Ne.symm (far A_ep.lt b3)
                replace A_ep := A_ep.keep K (ninS (Ne.symm na_ep) (ninS (Ne.symm nP_ep) nin0))
                replace nY_eq : Y3 ≠ eq := Ne.symm (far A_eq.lt b3)
                replace A_eq := A_eq.keep K (ninS (Ne.symm na_eq) (ninS (Ne.symm nP_eq) nin0))
                refine Wk.iload X at_232 234 rfl rfl ?_
                refine Wk.ifcT X at_234 253 (by decide) (show (0 : Int32) = (0 : Int32) from (by decide)) ?_
                refine Wk.aload X at_253 255 rfl rfl rfl ?_
                refine Wk.iload X at_255 257 rfl rfl ?_
                refine Wk.iload X at_257 259 rfl rfl ?_
                refine Wk.iload X at_259 261 rfl rfl ?_
                refine Wk.callS X (t61 hw) (t62 hw) (t63 hw) (t64 hw) (con_put0 l Z a0 hw [] h11 n0 ep y2 fl ([0, 0, 0, 0, 0, 0] : List Int32) rfl n_ep A_ep) (by decide) pd10 [(.ref ep), (.int (0 : Int32)), (.int y2), (.int fl)] [] rfl rfl rfl rfl 0 (Nat.le_of_eq rfl) (by decide) (by decide) (by decide) (by decide) 11 138 rfl rfl at_261 264 rfl ?_
                rintro _ T h12 X ⟨rfl, K, A_ep⟩
                show Wk p.tables e below _ (T.setTop (mkF m 264 #[.val (.int y0), .val (.int z0), .val (.int y1), .val (.int z1), .val (.int y2), .val (.int fl), .val (.ref a), .val (.int (0 : Int32)), .val (.int (1 : Int32)), .val (.int (3 : Int32)), .val (.int (1 : Int32)), .val (.int (1 : Int32)), .val (.int (0 : Int32)), .val (.ref ep), .val (.ref eq), .val (.int (0 : Int32)), .val (.int (4 : Int32)), .unset, .unset] [(.int (2 : Int32))]))
                replace A_ep : Arl Z h12 ep .int (([y2, fl, 0, 0, 0, 0] : List Int32).map Value.int) := A_ep
                replace S := S.keep K (ninS na_ep nin0) (ninS nP_ep nin0) (ninS nY_ep nin0)
                replace A_eq := A_eq.keep K (ninS (Ne.symm nee) nin0)
                refine Wk.istore X at_264 266 rfl #[.val (.int y0), .val (.int z0), .val (.int y1), .val (.int z1), .val (.int y2), .val (.int fl), .val (.ref a), .val (.int (0 : Int32)), .val (.int (1 : Int32)), .val (.int (3 : Int32)), .val (.int (1 : Int32)), .val (.int (1 : Int32)), .val (.int (0 : Int32)), .val (.ref ep), .val (.ref eq), .val (.int (2 : Int32)), .val (.int (4 : Int32)), .unset, .unset] rfl ?_
                refine Wk.aload X at_266 268 rfl rfl rfl ?_
                refine Wk.iload X at_268 270 rfl rfl ?_
                refine Wk.callV X (t65 hw) (t66 hw) (t68 hw) (t67 hw) (t2 hw) (t69 hw) S.1.1 (con_yah_2 l Z a0 hw [] h12 n0 a P2 Y3 2 3 ([2, 2, -1, -1, -1, -1, 0, 1, -1, -1, -1, -1] : List Int32) ([y0, z0, 1, y1, z1, -1, y2, fl, -1, 0, 0, 0] : List Int32) 0 0 rfl (by decide) (Nat.le_of_ble_eq_true rfl) rfl y2 fl rfl rfl rfl S) (by decide) pd8 [(.int (0 : Int32))] [] rfl rfl rfl rfl 0 (Nat.le_of_eq rfl) (by decide) (by decide) (by decide) (by decide) 12 144 rfl rfl at_270 273 rfl ?_
                rintro _ T h13 X ⟨rp, rfl, -, K, A_rp⟩
                show Wk p.tables e below _ (T.setTop (mkF m 273 #[.val (.int y0), .val (.int z0), .val (.int y1), .val (.int z1), .val (.int y2), .val (.int fl), .val (.ref a), .val (.int (0 : Int32)), .val (.int (1 : Int32)), .val (.int (3 : Int32)), .val (.int (1 : Int32)), .val (.int (1 : Int32)), .val (.int (0 : Int32)), .val (.ref ep), .val (.ref eq), .val (.int (2 : Int32)), .val (.int (4 : Int32)), .unset, .unset] [(.ref rp)]))
                replace A_ep := A_ep.keep K nin0
                replace A_eq := A_eq.keep K nin0
                replace S := S.keep K nin0 nin0 nin0
                refine Wk.astore X at_273 275 rfl #[.val (.int y0), .val (.int z0), .val (.int y1), .val (.int z1), .val (.int y2), .val (.int fl), .val (.ref a), .val (.int (0 : Int32)), .val (.int (1 : Int32)), .val (.int (3 : Int32)), .val (.int (1 : Int32)), .val (.int (1 : Int32)), .val (.int (0 : Int32)), .val (.ref ep), .val (.ref eq), .val (.int (2 : Int32)), .val (.int (4 : Int32)), .val (.ref rp), .unset] rfl rfl ?_
                refine Wk.aload X at_275 277 rfl rfl rfl ?_
                refine Wk.iload X at_277 279 rfl rfl ?_
                refine Wk.callV X (t65 hw) (t66 hw) (t68 hw) (t67 hw) (t2 hw) (t69 hw) S.1.1 (con_yah_01 l Z a0 hw [] h13 n0 a P2 Y3 2 3 ([2, 2, -1, -1, -1, -1, 0, 1, -1, -1, -1, -1] : List Int32) ([y0, z0, 1, y1, z1, -1, y2, fl, -1, 0, 0, 0] : List Int32) 1 1 rfl (by decide) (Nat.le_of_ble_eq_true rfl) rfl y0 z0 rfl rfl rfl y1 z1 rfl rfl rfl S) (by decide) pd8 [(.int (1 : Int32))] [] rfl rfl rfl rfl 0 (Nat.le_of_eq rfl) (by decide) (by decide) (by decide) (by decide) 13 150 rfl rfl at_279 282 rfl ?_
                rintro _ T h14 X ⟨rq, rfl, -, K, A_rq⟩
                show Wk p.tables e below _ (T.setTop (mkF m 282 #[.val (.int y0), .val (.int z0), .val (.int y1), .val (.int z1), .val (.int y2), .val (.int fl), .val (.ref a), .val (.int (0 : Int32)), .val (.int (1 : Int32)), .val (.int (3 : Int32)), .val (.int (1 : Int32)), .val (.int (1 : Int32)), .val (.int (0 : Int32)), .val (.ref ep), .val (.ref eq), .val (.int (2 : Int32)), .val (.int (4 : Int32)), .val (.ref rp), .unset] [(.ref rq)]))
                replace A_ep := A_ep.keep K nin0
                replace A_eq := A_eq.keep K nin0
                replace A_rp := A_rp.keep K nin0
                refine Wk.astore X at_282 284 rfl #[.val (.int y0), .val (.int z0), .val (.int y1), .val (.int z1), .val (.int y2), .val (.int fl), .val (.ref a), .val (.int (0 : Int32)), .val (.int (1 : Int32)), .val (.int (3 : Int32)), .val (.int (1 : Int32)), .val (.int (1 : Int32)), .val (.int (0 : Int32)), .val (.ref ep), .val (.ref eq), .val (.int (2 : Int32)), .val (.int (4 : Int32)), .val (.ref rp), .val (.ref rq)] rfl rfl ?_
                refine Wk.aload X at_284 286 rfl rfl rfl ?_
                refine Wk.aload X at_286 288 rfl rfl rfl ?_
                refine Wk.iload X at_288 290 rfl rfl ?_
                refine Wk.callS X (t74 hw) (t75 hw) (t63 hw) (t76 hw) (con_same2 l Z a0 hw [] h14 n0 rp ep (y2) (fl) (0) (0) (0) (0) A_rp A_ep) (by decide) pd9 [(.ref rp), (.ref ep), (.int (2 : Int32))] [] rfl rfl rfl rfl 0 (Nat.le_of_eq rfl) (by decide) (by decide) (by decide) (by decide) 13 150 rfl rfl at_290 293 rfl ?_
                rintro _ T _ X ⟨rfl, rfl⟩
                show Wk p.tables e below _ (T.setTop (mkF m 293 #[.val (.int y0), .val (.int z0), .val (.int y1), .val (.int z1), .val (.int y2), .val (.int fl), .val (.ref a), .val (.int (0 : Int32)), .val (.int (1 : Int32)), .val (.int (3 : Int32)), .val (.int (1 : Int32)), .val (.int (1 : Int32)), .val (.int (0 : Int32)), .val (.ref ep), .val (.ref eq), .val (.int (2 : Int32)), .val (.int (4 : Int32)), .val (.ref rp), .val (.ref rq)] [(.int (1 : Int32))]))
                refine Wk.ifcF X at_293 296 rfl (show ¬ (1 : Int32) = (0 : Int32) from (by decide)) ?_
                refine Wk.aload X at_296 298 rfl rfl rfl ?_
                refine Wk.aload X at_298 300 rfl rfl rfl ?_
                refine Wk.iload X at_300 302 rfl rfl ?_
                refine Wk.callS X (t74 hw) (t75 hw) (t63 hw) (t76 hw) (con_same4 l Z a0 hw [] h14 n0 rq eq (y0) (z0) (y1) (z1) (0) (0) A_rq A_eq) (by decide) pd9 [(.ref rq), (.ref eq), (.int (4 : Int32))] [] rfl rfl rfl rfl 0 (Nat.le_of_eq rfl) (by decide) (by decide) (by decide) (by decide) 13 150 rfl rfl at_302 305 rfl ?_
                rintro _ T _ X ⟨rfl, rfl⟩
                show Wk p.tables e below _ (T.setTop (mkF m 305 #[.val (.int y0), .val (.int z0), .val (.int y1), .val (.int z1), .val (.int y2), .val (.int fl), .val (.ref a), .val (.int (0 : Int32)), .val (.int (1 : Int32)), .val (.int (3 : Int32)), .val (.int (1 : Int32)), .val (.int (1 : Int32)), .val (.int (0 : Int32)), .val (.ref ep), .val (.ref eq), .val (.int (2 : Int32)), .val (.int (4 : Int32)), .val (.ref rp), .val (.ref rq)] [(.int (1 : Int32))]))
                refine Wk.ifcF X at_305 308 rfl (show ¬ (1 : Int32) = (0 : Int32) from (by decide)) ?_
                refine Wk.iconst X at_308 309 rfl (1 : Int32) rfl ?_
                refine Wk.goto X at_309 313 (by decide) ?_
                exact Wk.zreturn X at_313 (by decide) (by decide) (Or.inr rfl) rfl
              · show Wk p.tables e below _ (T.setTop (mkF m 215 #[.val (.int y0), .val (.int z0), .val (.int y1), .val (.int z1), .val (.int y2), .val (.int fl), .val (.ref a), .val (.int (0 : Int32)), .val (.int (1 : Int32)), .val (.int (3 : Int32)), .val (.int (1 : Int32)), .val (.int (1 : Int32)), .val (.int (1 : Int32)), .val (.ref ep), .val (.ref eq), .val (.int (0 : Int32)), .val (.int (4 : Int32)), .unset, .unset] [(.int (1 : Int32)), (.ref a)]))
                refine Wk.ifcF X at_215 218 rfl (show ¬ (1 : Int32) = (0 : Int32) from (by decide)) ?_
                refine Wk.iload X at_218 220 rfl rfl ?_
                refine Wk.goto X at_220 225 (by decide) ?_
                refine Wk.iload X at_225 227 rfl rfl ?_
                refine Wk.iload X at_227 229 rfl rfl ?_
                refine Wk.callV X (t50 hw) (t51 hw) (t53 hw) (t52 hw) (t2 hw) (t54 hw) S.1.1 (con_addYear2 l Z a0 hw [] h10 n0 a P2 Y2 2 y2 fl ([-1, -1, -1, -1, -1, -1, 0, 1, -1, -1, -1, -1] : List Int32) ([y0, z0, 1, y1, z1, -1] : List Int32) 1 1 rfl (by decide) (Nat.le_of_ble_eq_true rfl) (1) rfl (Or.inr ⟨1, rfl, by decide⟩) rfl S) (by decide) pd1 [(.int (1 : Int32)), (.int y2), (.int fl)] [] rfl rfl rfl rfl 0 (Nat.le_of_eq rfl) (by decide) (by decide) (by decide) (by decide) 11 138 rfl rfl at_229 232 rfl ?_
                rintro _ T h11 X ⟨rfl, K, Y3, b3, S⟩
                show Wk p.tables e below _ (T.setTop (mkF m 232 #[.val (.int y0), .val (.int z0), .val (.int y1), .val (.int z1), .val (.int y2), .val (.int fl), .val (.ref a), .val (.int (0 : Int32)), .val (.int (1 : Int32)), .val (.int (3 : Int32)), .val (.int (1 : Int32)), .val (.int (1 : Int32)), .val (.int (1 : Int32)), .val (.ref ep), .val (.ref eq), .val (.int (0 : Int32)), .val (.int (4 : Int32)), .unset, .unset] []))
                rw [lnkP_s (v := 1) (by decide), lnkY_s (v := 1) (by decide)] at S
                replace S : HS Z h11 n0 a P2 Y3 2 3 ([-1, -1, -1, -1, -1, -1, 0, 2, -1, -1, -1, -1] : List Int32) ([y0, z0, 1, y1, z1, 2, y2, fl, -1, 0, 0, 0] : List Int32) := S
                replace nY_ep : Y3 ≠ ep := Ne.symm (far A_ep.lt b3)
                replace A_ep := A_ep.keep K (ninS (Ne.symm na_ep) (ninS (Ne.symm nP_ep) nin0))
                replace nY_eq : Y3 ≠ eq := Ne.symm (far A_eq.lt b3)
                replace A_eq := A_eq.keep K (ninS (Ne.symm na_eq) (ninS (Ne.symm nP_eq) nin0))
                refine Wk.iload X at_232 234 rfl rfl ?_
                refine Wk.ifcF X at_234 237 rfl (show ¬ (1 : Int32) = (0 : Int32) from (by decide)) ?_
                refine Wk.aload X at_237 239 rfl rfl rfl ?_
                refine Wk.iload X at_239 241 rfl rfl ?_
                refine Wk.iload X at_241 243 rfl rfl ?_
                refine Wk.iload X at_243 245 rfl rfl ?_
                refine Wk.callS X (t61 hw) (t62 hw) (t63 hw) (t64 hw) (con_put4 l Z a0 hw [] h11 n0 eq y2 fl ([y0, z0, y1, z1, 0, 0] : List Int32) rfl n_eq A_eq) (by decide) pd10 [(.ref eq), (.int (4 : Int32)), (.int y2), (.int fl)] [] rfl rfl rfl rfl 0 (Nat.le_of_eq rfl) (by decide) (by decide) (by decide) (by decide) 11 138 rfl rfl at_245 248 rfl ?_
                rintro _ T h12 X ⟨rfl, K, A_eq⟩
                show Wk p.tables e below _ (T.setTop (mkF m 248 #[.val (.int y0), .val (.int z0), .val (.int y1), .val (.int z1), .val (.int y2), .val (.int fl), .val (.ref a), .val (.int (0 : Int32)), .val (.int (1 : Int32)), .val (.int (3 : Int32)), .val (.int (1 : Int32)), .val (.int (1 : Int32)), .val (.int (1 : Int32)), .val (.ref ep), .val (.ref eq), .val (.int (0 : Int32)), .val (.int (4 : Int32)), .unset, .unset] [(.int (6 : Int32))]))
                replace A_eq : Arl Z h12 eq .int (([y0, z0, y1, z1, y2, fl] : List Int32).map Value.int) := A_eq
                replace S := S.keep K (ninS na_eq nin0) (ninS nP_eq nin0) (ninS nY_eq nin0)
                replace A_ep := A_ep.keep K (ninS nee nin0)
                refine Wk.istore X at_248 250 rfl #[.val (.int y0), .val (.int z0), .val (.int y1), .val (.int z1), .val (.int y2), .val (.int fl), .val (.ref a), .val (.int (0 : Int32)), .val (.int (1 : Int32)), .val (.int (3 : Int32)), .val (.int (1 : Int32)), .val (.int (1 : Int32)), .val (.int (1 : Int32)), .val (.ref ep), .val (.ref eq), .val (.int (0 : Int32)), .val (.int (6 : Int32)), .unset, .unset] rfl ?_
                refine Wk.goto X at_250 266 (by decide) ?_
                refine Wk.aload X at_266 268 rfl rfl rfl ?_
                refine Wk.iload X at_268 270 rfl rfl ?_
                refine Wk.callV X (t65 hw) (t66 hw) (t68 hw) (t67 hw) (t2 hw) (t69 hw) S.1.1 (con_yah_ l Z a0 hw [] h12 n0 a P2 Y3 2 3 ([-1, -1, -1, -1, -1, -1, 0, 2, -1, -1, -1, -1] : List Int32) ([y0, z0, 1, y1, z1, 2, y2, fl, -1, 0, 0, 0] : List Int32) 0 0 rfl (by decide) (Nat.le_of_ble_eq_true rfl) rfl  S) (by decide) pd8 [(.int (0 : Int32))] [] rfl rfl rfl rfl 0 (Nat.le_of_eq rfl) (by decide) (by decide) (by decide) (by decide) 12 144 rfl rfl at_270 273 rfl ?_
                rintro _ T h13 X ⟨rp, rfl, -, K, A_rp⟩
                show Wk p.tables e below _ (T.setTop (mkF m 273 #[.val (.int y0), .val (.int z0), .val (.int y1), .val (.int z1), .val (.int y2), .val (.int fl), .val (.ref a), .val (.int (0 : Int32)), .val (.int (1 : Int32)), .val (.int (3 : Int32)), .val (.int (1 : Int32)), .val (.int (1 : Int32)), .val (.int (1 : Int32)), .val (.ref ep), .val (.ref eq), .val (.int (0 : Int32)), .val (.int (6 : Int32)), .unset, .unset] [(.ref rp)]))
                replace A_ep := A_ep.keep K nin0
                replace A_eq := A_eq.keep K nin0
                replace S := S.keep K nin0 nin0 nin0
                refine Wk.astore X at_273 275 rfl #[.val (.int y0), .val (.int z0), .val (.int y1), .val (.int z1), .val (.int y2), .val (.int fl), .val (.ref a), .val (.int (0 : Int32)), .val (.int (1 : Int32)), .val (.int (3 : Int32)), .val (.int (1 : Int32)), .val (.int (1 : Int32)), .val (.int (1 : Int32)), .val (.ref ep), .val (.ref eq), .val (.int (0 : Int32)), .val (.int (6 : Int32)), .val (.ref rp), .unset] rfl rfl ?_
                refine Wk.aload X at_275 277 rfl rfl rfl ?_
                refine Wk.iload X at_277 279 rfl rfl ?_
                refine Wk.callV X (t65 hw) (t66 hw) (t68 hw) (t67 hw) (t2 hw) (t69 hw) S.1.1 (con_yah_012 l Z a0 hw [] h13 n0 a P2 Y3 2 3 ([-1, -1, -1, -1, -1, -1, 0, 2, -1, -1, -1, -1] : List Int32) ([y0, z0, 1, y1, z1, 2, y2, fl, -1, 0, 0, 0] : List Int32) 1 1 rfl (by decide) (Nat.le_of_ble_eq_true rfl) rfl y0 z0 rfl rfl rfl y1 z1 rfl rfl rfl y2 fl rfl rfl rfl S) (by decide) pd8 [(.int (1 : Int32))] [] rfl rfl rfl rfl 0 (Nat.le_of_eq rfl) (by decide) (by decide) (by decide) (by decide) 13 150 rfl rfl at_279 282 rfl ?_
                rintro _ T h14 X ⟨rq, rfl, -, K, A_rq⟩
                show Wk p.tables e below _ (T.setTop (mkF m 282 #[.val (.int y0), .val (.int z0), .val (.int y1), .val (.int z1), .val (.int y2), .val (.int fl), .val (.ref a), .val (.int (0 : Int32)), .val (.int (1 : Int32)), .val (.int (3 : Int32)), .val (.int (1 : Int32)), .val (.int (1 : Int32)), .val (.int (1 : Int32)), .val (.ref ep), .val (.ref eq), .val (.int (0 : Int32)), .val (.int (6 : Int32)), .val (.ref rp), .unset] [(.ref rq)]))
                replace A_ep := A_ep.keep K nin0
                replace A_eq := A_eq.keep K nin0
                replace A_rp := A_rp.keep K nin0
                refine Wk.astore X at_282 284 rfl #[.val (.int y0), .val (.int z0), .val (.int y1), .val (.int z1), .val (.int y2), .val (.int fl), .val (.ref a), .val (.int (0 : Int32)), .val (.int (1 : Int32)), .val (.int (3 : Int32)), .val (.int (1 : Int32)), .val (.int (1 : Int32)), .val (.int (1 : Int32)), .val (.ref ep), .val (.ref eq), .val (.int (0 : Int32)), .val (.int (6 : Int32)), .val (.ref rp), .val (.ref rq)] rfl rfl ?_
                refine Wk.aload X at_284 286 rfl rfl rfl ?_
                refine Wk.aload X at_286 288 rfl rfl rfl ?_
                refine Wk.iload X at_288 290 rfl rfl ?_
                refine Wk.callS X (t74 hw) (t75 hw) (t63 hw) (t76 hw) (con_same0 l Z a0 hw [] h14 n0 rp ep (0) (0) (0) (0) (0) (0) A_rp A_ep) (by decide) pd9 [(.ref rp), (.ref ep), (.int (0 : Int32))] [] rfl rfl rfl rfl 0 (Nat.le_of_eq rfl) (by decide) (by decide) (by decide) (by decide) 13 150 rfl rfl at_290 293 rfl ?_
                rintro _ T _ X ⟨rfl, rfl⟩
                show Wk p.tables e below _ (T.setTop (mkF m 293 #[.val (.int y0), .val (.int z0), .val (.int y1), .val (.int z1), .val (.int y2), .val (.int fl), .val (.ref a), .val (.int (0 : Int32)), .val (.int (1 : Int32)), .val (.int (3 : Int32)), .val (.int (1 : Int32)), .val (.int (1 : Int32)), .val (.int (1 : Int32)), .val (.ref ep), .val (.ref eq), .val (.int (0 : Int32)), .val (.int (6 : Int32)), .val (.ref rp), .val (.ref rq)] [(.int (1 : Int32))]))
                refine Wk.ifcF X at_293 296 rfl (show ¬ (1 : Int32) = (0 : Int32) from (by decide)) ?_
                refine Wk.aload X at_296 298 rfl rfl rfl ?_
                refine Wk.aload X at_298 300 rfl rfl rfl ?_
                refine Wk.iload X at_300 302 rfl rfl ?_
                refine Wk.callS X (t74 hw) (t75 hw) (t63 hw) (t76 hw) (con_same6 l Z a0 hw [] h14 n0 rq eq (y0) (z0) (y1) (z1) (y2) (fl) A_rq A_eq) (by decide) pd9 [(.ref rq), (.ref eq), (.int (6 : Int32))] [] rfl rfl rfl rfl 0 (Nat.le_of_eq rfl) (by decide) (by decide) (by decide) (by decide) 13 150 rfl rfl at_302 305 rfl ?_
                rintro _ T _ X ⟨rfl, rfl⟩
                show Wk p.tables e below _ (T.setTop (mkF m 305 #[.val (.int y0), .val (.int z0), .val (.int y1), .val (.int z1), .val (.int y2), .val (.int fl), .val (.ref a), .val (.int (0 : Int32)), .val (.int (1 : Int32)), .val (.int (3 : Int32)), .val (.int (1 : Int32)), .val (.int (1 : Int32)), .val (.int (1 : Int32)), .val (.ref ep), .val (.ref eq), .val (.int (0 : Int32)), .val (.int (6 : Int32)), .val (.ref rp), .val (.ref rq)] [(.int (1 : Int32))]))
                refine Wk.ifcF X at_305 308 rfl (show ¬ (1 : Int32) = (0 : Int32) from (by decide)) ?_
                refine Wk.iconst X at_308 309 rfl (1 : Int32) rfl ?_
                refine Wk.goto X at_309 313 (by decide) ?_
                exact Wk.zreturn X at_313 (by decide) (by decide) (Or.inr rfl) rfl
      · intro J
        refine Wk.ifc X at_67 74 70 (by decide) rfl ?_ ?_
        · intro hc; change ((fl >>> ((4 : Int32) &&& 31)) &&& (1 : Int32)) = (0 : Int32) at hc
          refine Wk.iconst X at_74 75 rfl (0 : Int32) rfl ?_
          rw [show (tw (¬ ((fl >>> ((4 : Int32) &&& 31)) &&& (1 : Int32)) = (0 : Int32))) = (0 : Int32) from tw_n hc] at J
          exact J trivial
        · intro hc; change ¬ ((fl >>> ((4 : Int32) &&& 31)) &&& (1 : Int32)) = (0 : Int32) at hc
          refine Wk.iconst X at_70 71 rfl (1 : Int32) rfl ?_
          refine Wk.goto X at_71 75 (by decide) ?_
          rw [show (tw (¬ ((fl >>> ((4 : Int32) &&& 31)) &&& (1 : Int32)) = (0 : Int32))) = (1 : Int32) from tw_p hc] at J
          exact J trivial
    · intro J
      refine Wk.ifc X at_51 58 54 (by decide) rfl ?_ ?_
      · intro hc; change ((fl >>> ((3 : Int32) &&& 31)) &&& (1 : Int32)) = (0 : Int32) at hc
        refine Wk.iconst X at_58 59 rfl (0 : Int32) rfl ?_
        rw [show (tw (¬ ((fl >>> ((3 : Int32) &&& 31)) &&& (1 : Int32)) = (0 : Int32))) = (0 : Int32) from tw_n hc] at J
        exact J trivial
      · intro hc; change ¬ ((fl >>> ((3 : Int32) &&& 31)) &&& (1 : Int32)) = (0 : Int32) at hc
        refine Wk.iconst X at_54 55 rfl (1 : Int32) rfl ?_
        refine Wk.goto X at_55 59 (by decide) ?_
        rw [show (tw (¬ ((fl >>> ((3 : Int32) &&& 31)) &&& (1 : Int32)) = (0 : Int32))) = (1 : Int32) from tw_p hc] at J
        exact J trivial
  · intro J
    refine Wk.ifc X at_35 42 38 (by decide) rfl ?_ ?_
    · intro hc; change ((fl >>> ((2 : Int32) &&& 31)) &&& (1 : Int32)) = (0 : Int32) at hc
      refine Wk.iconst X at_42 43 rfl (0 : Int32) rfl ?_
      rw [show (tw (¬ ((fl >>> ((2 : Int32) &&& 31)) &&& (1 : Int32)) = (0 : Int32))) = (0 : Int32) from tw_n hc] at J
      exact J trivial
    · intro hc; change ¬ ((fl >>> ((2 : Int32) &&& 31)) &&& (1 : Int32)) = (0 : Int32) at hc
      refine Wk.iconst X at_38 39 rfl (1 : Int32) rfl ?_
      refine Wk.goto X at_39 43 (by decide) ?_
      rw [show (tw (¬ ((fl >>> ((2 : Int32) &&& 31)) &&& (1 : Int32)) = (0 : Int32))) = (1 : Int32) from tw_p hc] at J
      exact J trivial
set_option maxRecDepth 65536 in
set_option maxHeartbeats 40000000 in
theorem comes_1 {Post : Tables → Env → Array Value → State → Outcome → State → Prop} (hpost : ∀ tb e args s v u, (limb_1_1.after args s (.returned v) u = true ∧ limb_1_2.after args s (.returned v) u = true ∧ True) → FrameEnd s (.returned v) u (Jvm.fieldLocs frame_1_writes args s ++ Jvm.arrayLocs frame_1_arrays args s ++ Jvm.staticLocs frame_1_statics s) 40 192 → Post tb e args s (.returned v) u) :
    ArmFor flags0 classFile x code maxLocals ret World_1 tables_1 room_1 Calls_1 rest_1 Pre_1 Post := by
  intro l hfl _ _ p e ha hc hk s m args below hf hA hF happ hP
  obtain ⟨hcalls, hrest, hpre⟩ := hP
  obtain ⟨-, -, -, hnamed, -, -, -, hat⟩ := (Spec.applies_iff hf).mp happ
  obtain ⟨hg, hn⟩ := and_e (Cond.before_iff.mp (show (Jvm.Cond.and given_1 narrow_1).before args s = true from hpre))
  obtain ⟨g0, r0⟩ := and_e hg
  obtain ⟨g1, r1⟩ := and_e r0
  obtain ⟨g2, r2⟩ := and_e r1
  obtain ⟨g3, r3⟩ := and_e r2
  obtain ⟨g4, r4⟩ := and_e r3
  obtain ⟨g5, r5⟩ := and_e r4
  have g6 := r5
  obtain ⟨w0, w1, w2, w3, w4, w5, rfl⟩ : ∃ w0 w1 w2 w3 w4 w5 : Value, args = #[w0, w1, w2, w3, w4, w5] := by
    have hs : args.size = 6 := by simpa [Cond.value, given_1] using g0
    obtain ⟨L⟩ := args
    match L, hs with
    | [w0, w1, w2, w3, w4, w5], _ => exact ⟨w0, w1, w2, w3, w4, w5, rfl⟩
  have hw := fun d (hd : d ∈ tables_1) => atoms_spec (ws := Jvm.Cond.code x code maxLocals ret :: tables_1) hat d (List.mem_cons_of_mem _ hd)
  obtain ⟨i0, ei0⟩ := is_v g1
  obtain rfl : w0 = (.int i0) := Option.some.inj ei0
  obtain ⟨i1, ei1⟩ := is_v g2
  obtain rfl : w1 = (.int i1) := Option.some.inj ei1
  obtain ⟨i2, ei2⟩ := is_v g3
  obtain rfl : w2 = (.int i2) := Option.some.inj ei2
  obtain ⟨i3, ei3⟩ := is_v g4
  obtain rfl : w3 = (.int i3) := Option.some.inj ei3
  obtain ⟨i4, ei4⟩ := is_v g5
  obtain rfl : w4 = (.int i4) := Option.some.inj ei4
  obtain ⟨i5, ei5⟩ := is_v g6
  obtain rfl : w5 = (.int i5) := Option.some.inj ei5
  obtain ⟨n, o, h1, h2, h3, _, L, rfl, ⟨rfl, N⟩, hq⟩ := con_law l s _ hw tables_1 s.heap s.heap.size i0 i1 i2 i3 i4 i5 (Nat.le_refl _) p e ha hc hk s m _ below hf ((Spec.applies_iff_loose hf).mp happ).1 ⟨rfl, State.Warmed39.refl s, rfl⟩ trivial
  refine ⟨n, _, h1, h2, h3, hpost _ _ _ _ _ _ ⟨Cond.after_iff.mpr rfl, Cond.after_iff.mpr (eq_i res_at (Term.int_eval (1)) rfl), trivial⟩ ⟨hq.1, hq.2.1, (hq.2.2.sift fun y hy => Or.inr (N y hy)).mono (by decide) (by decide)⟩⟩
theorem main_1_1 : Claimed_1_1 := comes_1 fun _ _ _ _ _ _ h hF => ⟨h.1, hF⟩
theorem main_1_2 : Claimed_1_2 := comes_1 fun _ _ _ _ _ _ h hF => ⟨h.2.1, hF⟩
end Jvm.Pilot.@@N@@
namespace Jvm.Pilot.@@N@@
open Jvm Jvm.ClassFile Sem Op Lib Jvm.Free Jvm.Stand Jvm.Pilot.@@N@@.Jvm.D
/-! MADE BY PROGRAM (witnessworld.py) out of the Statement's table words and the real class files: 12 classes; the members and pool entries that the words name. The judged class is class 1, her method 1. -/
namespace start1
open Jvm.ClassFile
def u (s : String) : CpInfo := .utf8 (stringToUtf16 s)
/-- a pool by its gaps: so many unusable entries, then the entry; so many at the end -/
def gap : Nat → List CpInfo → List CpInfo
  | 0, r => r
  | n + 1, r => .unusable :: gap n r
def poolList (es : List (Nat × CpInfo)) (last : Nat) : List CpInfo := es.foldr (fun e r => gap e.1 (e.2 :: r)) (gap last [])
def pool (es : List (Nat × CpInfo)) (last : Nat) : Array CpInfo := ⟨poolList es last⟩
def fileOf (pool : Array CpInfo) (this : Nat) (attrs : Array Attribute := #[]) (ms : Array MethodInfo := #[]) (fl : Nat := 33) (sup : Nat := 0) (ifs : Array Nat := #[]) (fds : Array FieldInfo := #[]) : ClassFile where
  minorVersion := 0
  majorVersion := 65
  constantPool := pool
  accessFlags := fl
  thisClass := this
  superClass := sup
  interfaces := ifs
  fields := fds
  methods := ms
  attributes := attrs
def plain (name : String) (sup : Option ClassId) : Class where
  name := name
  kind := .ordinary
  loader := none
  accessFlags := 33
  super := sup
  interfaces := #[]
  cf := none
  fields := #[]
  methods := #[]
  instanceTypes := #[]
  staticTypes := #[]
  resolved := #[]
  callSites := []
  init := .initialized
  statics := none
  mirror := none

def pool0 : Array CpInfo := pool [(5, u "<init>"), (0, u "()V"), (1, .class_ 10), (1, u "java/lang/Object")] 113

def k0c0 : Code := { maxStack := 0, maxLocals := 1, code := object_method_1_code, exceptionTable := #[], attributes := #[] }
def k0m0 : Method := { name := "<init>", desc := "()V", sig := { parameters := [], returnType := none }, accessFlags := 1, code := some k0c0 }
/-- java/lang/Object -/
def k0 : Class := { plain "java/lang/Object" none with
  accessFlags := 33
  interfaces := #[]
  cf := some (fileOf pool0 8 #[] #[{ accessFlags := 1, nameIndex := 5, descriptorIndex := 6, attributes := #[] }] 33 0 #[] #[])
  fields := #[]
  methods := #[k0m0]
  instanceTypes := #[]
  staticTypes := #[]
  resolved := Array.replicate 124 none
  statics := none }

def pool1 : Array CpInfo := pool [(2, .class_ 4), (0, .nameAndType 5 6), (0, u "java/lang/Object"), (0, u "<init>"), (0, u "()V"), (0, .class_ 8), (0, u "com/example/vestline/vestline/HoursHistories"), (0, .methodref 7 3), (0, .methodref 7 11), (0, .nameAndType 12 13), (0, u "add"), (0, u "()I"), (0, .methodref 7 15), (0, .nameAndType 16 17), (0, u "addYear"), (0, u "(III)V"), (0, .methodref 19 20), (0, .class_ 21), (0, .nameAndType 22 23), (0, u "com/example/vestline/vestline/HoursHistoriesYearsAndHoursPinLaw"), (0, u "put"), (0, u "([IIII)I"), (0, .methodref 7 25), (0, .nameAndType 26 27), (0, u "yearsAndHours"), (0, u "(I)[I"), (0, .methodref 19 29), (0, .nameAndType 30 31), (0, u "same"), (0, u "([I[II)Z"), (2, u "law"), (0, u "(IIIIII)Z")] 5

def k1m0 : Method := { name := "<init>", desc := "()V", sig := { parameters := [], returnType := none }, accessFlags := 2, code := none }
def k1c1 : Code := { maxStack := 4, maxLocals := 19, code := code, exceptionTable := #[], attributes := #[] }
def k1m1 : Method := { name := "law", desc := "(IIIIII)Z", sig := { parameters := [.int, .int, .int, .int, .int, .int], returnType := some .boolean }, accessFlags := 9, code := some k1c1 }
def k1c2 : Code := { maxStack := 3, maxLocals := 4, code := method_3_code, exceptionTable := #[], attributes := #[] }
def k1m2 : Method := { name := "put", desc := "([IIII)I", sig := { parameters := [(.array .int), .int, .int, .int], returnType := some .int }, accessFlags := 10, code := some k1c2 }
def k1c3 : Code := { maxStack := 3, maxLocals := 3, code := method_4_code, exceptionTable := #[], attributes := #[] }
def k1m3 : Method := { name := "same", desc := "([I[II)Z", sig := { parameters := [(.array .int), (.array .int), .int], returnType := some .boolean }, accessFlags := 10, code := some k1c3 }
/-- com/example/vestline/vestline/HoursHistoriesYearsAndHoursPinLaw -/
def k1 : Class := { plain "com/example/vestline/vestline/HoursHistoriesYearsAndHoursPinLaw" (some 0) with
  accessFlags := 49
  interfaces := #[]
  cf := some (fileOf pool1 19 #[] #[{ accessFlags := 2, nameIndex := 5, descriptorIndex := 6, attributes := #[] }, { accessFlags := 9, nameIndex := 34, descriptorIndex := 35, attributes := #[] }, { accessFlags := 10, nameIndex := 22, descriptorIndex := 23, attributes := #[] }, { accessFlags := 10, nameIndex := 30, descriptorIndex := 31, attributes := #[] }] 49 2 #[] #[])
  fields := #[]
  methods := #[k1m0, k1m1, k1m2, k1m3]
  instanceTypes := #[]
  staticTypes := #[]
  resolved := Array.replicate 41 none
  statics := none }

def pool2 : Array CpInfo := pool [(1, .methodref 2 3), (0, .class_ 4), (0, .nameAndType 5 6), (0, u "java/lang/Object"), (0, u "<init>"), (0, u "()V"), (0, .fieldref 8 9), (0, .class_ 10), (0, .nameAndType 11 12), (0, u "com/example/vestline/vestline/HoursHistories"), (0, u "participants"), (0, u "[I"), (0, .fieldref 8 14), (0, .nameAndType 15 12), (0, u "years"), (0, .fieldref 8 17), (0, .nameAndType 18 12), (0, u "events"), (0, .fieldref 8 20), (0, .nameAndType 21 22), (0, u "participantCount"), (0, u "I"), (0, .methodref 8 24), (0, .nameAndType 25 26), (0, u "room"), (0, u "([III)[I"), (0, .methodref 28 29), (0, .class_ 30), (0, .nameAndType 31 32), (0, u "java/util/Arrays"), (0, u "fill"), (0, u "([IIII)V"), (0, .fieldref 8 34), (0, .nameAndType 35 22), (0, u "yearCount"), (0, .methodref 8 37), (0, .nameAndType 38 39), (0, u "link"), (0, u "([IIIII)V"), (0, .methodref 8 41), (0, .nameAndType 42 43), (0, u "field"), (0, u "(II)I"), (5, u "()I"), (11, .class_ 63), (1, u "java/lang/Math"), (4, u "eventCount"), (21, u "add"), (12, u "ANSWERS"), (0, u "[Ljava/lang/Boolean;"), (2, u "REASONS"), (0, u "[Lcom/example/vestline/vestline/TerminationReason;"), (6, .methodref 61 116), (0, .nameAndType 117 43), (0, u "multiplyExact"), (0, .methodref 61 119), (0, .nameAndType 120 43), (0, u "max"), (0, .methodref 28 122), (0, .nameAndType 123 124), (0, u "copyOf"), (0, u "([II)[I"), (7, u "NONE"), (2, u "FIRST_YEAR"), (1, u "LAST_YEAR"), (1, u "FIRST_EVENT"), (1, u "LAST_EVENT"), (1, u "CASH_BALANCE_SERVICE"), (1, u "CASH_BALANCE_YEAR"), (1, u "PARTICIPANT_INTS"), (1, u "VALUE"), (0, u "DETAIL"), (0, u "NEXT"), (0, u "ENTRY_INTS"), (0, u "REHIRE"), (0, u "ANSWER_BITS"), (0, u "NOT_VESTED"), (0, u "VESTED"), (0, u "NOT_ANSWERED"), (3, u "addYear"), (0, u "(III)V"), (11, u "yearsAndHours"), (0, u "(I)[I")] 11

def k2c0 : Code := { maxStack := 2, maxLocals := 1, code := prog_12_method_1_code, exceptionTable := #[], attributes := #[] }
def k2m0 : Method := { name := "<init>", desc := "()V", sig := { parameters := [], returnType := none }, accessFlags := 0, code := some k2c0 }
def k2c1 : Code := { maxStack := 4, maxLocals := 2, code := prog_12_method_2_code, exceptionTable := #[], attributes := #[] }
def k2m1 : Method := { name := "add", desc := "()I", sig := { parameters := [], returnType := some .int }, accessFlags := 0, code := some k2c1 }
def k2c2 : Code := { maxStack := 6, maxLocals := 5, code := prog_12_method_4_code, exceptionTable := #[], attributes := #[] }
def k2m2 : Method := { name := "addYear", desc := "(III)V", sig := { parameters := [.int, .int, .int], returnType := none }, accessFlags := 0, code := some k2c2 }
def k2c3 : Code := { maxStack := 5, maxLocals := 6, code := prog_12_method_11_code, exceptionTable := #[], attributes := #[] }
def k2m3 : Method := { name := "yearsAndHours", desc := "(I)[I", sig := { parameters := [.int], returnType := some (.array .int) }, accessFlags := 0, code := some k2c3 }
def k2c4 : Code := { maxStack := 3, maxLocals := 3, code := prog_12_method_13_code, exceptionTable := #[], attributes := #[] }
def k2m4 : Method := { name := "field", desc := "(II)I", sig := { parameters := [.int, .int], returnType := some .int }, accessFlags := 2, code := some k2c4 }
def k2c5 : Code := { maxStack := 3, maxLocals := 8, code := prog_12_method_16_code, exceptionTable := #[], attributes := #[] }
def k2m5 : Method := { name := "link", desc := "([IIIII)V", sig := { parameters := [(.array .int), .int, .int, .int, .int], returnType := none }, accessFlags := 2, code := some k2c5 }
def k2c6 : Code := { maxStack := 4, maxLocals := 3, code := prog_12_method_17_code, exceptionTable := #[], attributes := #[] }
def k2m6 : Method := { name := "room", desc := "([III)[I", sig := { parameters := [(.array .int), .int, .int], returnType := some (.array .int) }, accessFlags := 10, code := some k2c6 }
/-- com/example/vestline/vestline/HoursHistories -/
def k2 : Class := { plain "com/example/vestline/vestline/HoursHistories" (some 0) with
  accessFlags := 48
  interfaces := #[]
  cf := some (fileOf pool2 8 #[] #[{ accessFlags := 0, nameIndex := 5, descriptorIndex := 6, attributes := #[] }, { accessFlags := 0, nameIndex := 90, descriptorIndex := 49, attributes := #[] }, { accessFlags := 0, nameIndex := 161, descriptorIndex := 162, attributes := #[] }, { accessFlags := 0, nameIndex := 174, descriptorIndex := 175, attributes := #[] }, { accessFlags := 2, nameIndex := 42, descriptorIndex := 43, attributes := #[] }, { accessFlags := 2, nameIndex := 38, descriptorIndex := 39, attributes := #[] }, { accessFlags := 10, nameIndex := 25, descriptorIndex := 26, attributes := #[] }] 48 2 #[] #[{ accessFlags := 26, nameIndex := 132, descriptorIndex := 22, attributes := #[] }, { accessFlags := 26, nameIndex := 135, descriptorIndex := 22, attributes := #[] }, { accessFlags := 26, nameIndex := 137, descriptorIndex := 22, attributes := #[] }, { accessFlags := 26, nameIndex := 139, descriptorIndex := 22, attributes := #[] }, { accessFlags := 26, nameIndex := 141, descriptorIndex := 22, attributes := #[] }, { accessFlags := 26, nameIndex := 143, descriptorIndex := 22, attributes := #[] }, { accessFlags := 26, nameIndex := 145, descriptorIndex := 22, attributes := #[] }, { accessFlags := 26, nameIndex := 147, descriptorIndex := 22, attributes := #[] }, { accessFlags := 26, nameIndex := 149, descriptorIndex := 22, attributes := #[] }, { accessFlags := 26, nameIndex := 150, descriptorIndex := 22, attributes := #[] }, { accessFlags := 26, nameIndex := 151, descriptorIndex := 22, attributes := #[] }, { accessFlags := 26, nameIndex := 152, descriptorIndex := 22, attributes := #[] }, { accessFlags := 26, nameIndex := 153, descriptorIndex := 22, attributes := #[] }, { accessFlags := 26, nameIndex := 154, descriptorIndex := 22, attributes := #[] }, { accessFlags := 26, nameIndex := 155, descriptorIndex := 22, attributes := #[] }, { accessFlags := 26, nameIndex := 156, descriptorIndex := 22, attributes := #[] }, { accessFlags := 26, nameIndex := 157, descriptorIndex := 22, attributes := #[] }, { accessFlags := 26, nameIndex := 103, descriptorIndex := 104, attributes := #[] }, { accessFlags := 26, nameIndex := 107, descriptorIndex := 108, attributes := #[] }, { accessFlags := 2, nameIndex := 11, descriptorIndex := 12, attributes := #[] }, { accessFlags := 2, nameIndex := 21, descriptorIndex := 22, attributes := #[] }, { accessFlags := 2, nameIndex := 15, descriptorIndex := 12, attributes := #[] }, { accessFlags := 2, nameIndex := 35, descriptorIndex := 22, attributes := #[] }, { accessFlags := 2, nameIndex := 18, descriptorIndex := 12, attributes := #[] }, { accessFlags := 2, nameIndex := 68, descriptorIndex := 22, attributes := #[] }])
  fields := #[{ name := "NONE", type := .int, accessFlags := 26, slot := 0, constantValue := 0 }, { name := "FIRST_YEAR", type := .int, accessFlags := 26, slot := 1, constantValue := 0 }, { name := "LAST_YEAR", type := .int, accessFlags := 26, slot := 2, constantValue := 0 }, { name := "FIRST_EVENT", type := .int, accessFlags := 26, slot := 3, constantValue := 0 }, { name := "LAST_EVENT", type := .int, accessFlags := 26, slot := 4, constantValue := 0 }, { name := "CASH_BALANCE_SERVICE", type := .int, accessFlags := 26, slot := 5, constantValue := 0 }, { name := "CASH_BALANCE_YEAR", type := .int, accessFlags := 26, slot := 6, constantValue := 0 }, { name := "PARTICIPANT_INTS", type := .int, accessFlags := 26, slot := 7, constantValue := 0 }, { name := "VALUE", type := .int, accessFlags := 26, slot := 8, constantValue := 0 }, { name := "DETAIL", type := .int, accessFlags := 26, slot := 9, constantValue := 0 }, { name := "NEXT", type := .int, accessFlags := 26, slot := 10, constantValue := 0 }, { name := "ENTRY_INTS", type := .int, accessFlags := 26, slot := 11, constantValue := 0 }, { name := "REHIRE", type := .int, accessFlags := 26, slot := 12, constantValue := 0 }, { name := "ANSWER_BITS", type := .int, accessFlags := 26, slot := 13, constantValue := 0 }, { name := "NOT_VESTED", type := .int, accessFlags := 26, slot := 14, constantValue := 0 }, { name := "VESTED", type := .int, accessFlags := 26, slot := 15, constantValue := 0 }, { name := "NOT_ANSWERED", type := .int, accessFlags := 26, slot := 16, constantValue := 0 }, { name := "ANSWERS", type := (.array (.object "java/lang/Boolean")), accessFlags := 26, slot := 17, constantValue := 0 }, { name := "REASONS", type := (.array (.object "com/example/vestline/vestline/TerminationReason")), accessFlags := 26, slot := 18, constantValue := 0 }, { name := "participants", type := (.array .int), accessFlags := 2, slot := 0, constantValue := 0 }, { name := "participantCount", type := .int, accessFlags := 2, slot := 1, constantValue := 0 }, { name := "years", type := (.array .int), accessFlags := 2, slot := 2, constantValue := 0 }, { name := "yearCount", type := .int, accessFlags := 2, slot := 3, constantValue := 0 }, { name := "events", type := (.array .int), accessFlags := 2, slot := 4, constantValue := 0 }, { name := "eventCount", type := .int, accessFlags := 2, slot := 5, constantValue := 0 }]
  methods := #[k2m0, k2m1, k2m2, k2m3, k2m4, k2m5, k2m6]
  instanceTypes := #[(.array .int), .int, (.array .int), .int, (.array .int), .int]
  staticTypes := #[.int, .int, .int, .int, .int, .int, .int, .int, .int, .int, .int, .int, .int, .int, .int, .int, .int, (.array (.object "java/lang/Boolean")), (.array (.object "com/example/vestline/vestline/TerminationReason"))]
  resolved := Array.replicate 187 none
  statics := none }

def pool3 : Array CpInfo := pool [(1, .class_ 2), (0, u "java/lang/Math"), (1, .class_ 6), (1, u "java/lang/Object"), (0, u "<init>"), (0, u "()V"), (89, .class_ 100), (1, u "java/lang/Math$RandomNumberGeneratorHolder"), (19, u "multiplyExact"), (51, u "negativeZeroFloatBits"), (0, u "J"), (2, u "negativeZeroDoubleBits"), (21, u "max"), (2, u "min"), (43, u "$assertionsDisabled"), (0, u "Z"), (88, u "(II)I"), (2, u "twoToTheDoubleScaleDown"), (0, u "D"), (4, u "twoToTheDoubleScaleUp"), (9, u "E"), (3, u "PI"), (2, u "TAU"), (2, u "DEGREES_TO_RADIANS"), (0, u "RADIANS_TO_DEGREES")] 94

def k3m0 : Method := { name := "<init>", desc := "()V", sig := { parameters := [], returnType := none }, accessFlags := 2, code := none }
def k3c1 : Code := { maxStack := 4, maxLocals := 4, code := jdk_29_method_28_code, exceptionTable := #[], attributes := #[] }
def k3m1 : Method := { name := "multiplyExact", desc := "(II)I", sig := { parameters := [.int, .int], returnType := some .int }, accessFlags := 9, code := some k3c1 }
def k3c2 : Code := { maxStack := 2, maxLocals := 2, code := jdk_29_method_65_code, exceptionTable := #[], attributes := #[] }
def k3m2 : Method := { name := "max", desc := "(II)I", sig := { parameters := [.int, .int], returnType := some .int }, accessFlags := 9, code := some k3c2 }
def k3c3 : Code := { maxStack := 2, maxLocals := 2, code := jdk_29_method_69_code, exceptionTable := #[], attributes := #[] }
def k3m3 : Method := { name := "min", desc := "(II)I", sig := { parameters := [.int, .int], returnType := some .int }, accessFlags := 9, code := some k3c3 }
/-- java/lang/Math -/
def k3 : Class := { plain "java/lang/Math" (some 0) with
  accessFlags := 49
  interfaces := #[]
  cf := some (fileOf pool3 1 #[.nestMembers #[98]] #[{ accessFlags := 2, nameIndex := 7, descriptorIndex := 8, attributes := #[] }, { accessFlags := 9, nameIndex := 120, descriptorIndex := 335, attributes := #[] }, { accessFlags := 9, nameIndex := 198, descriptorIndex := 335, attributes := #[] }, { accessFlags := 9, nameIndex := 201, descriptorIndex := 335, attributes := #[] }] 49 4 #[] #[{ accessFlags := 25, nameIndex := 354, descriptorIndex := 339, attributes := #[] }, { accessFlags := 25, nameIndex := 358, descriptorIndex := 339, attributes := #[] }, { accessFlags := 25, nameIndex := 361, descriptorIndex := 339, attributes := #[] }, { accessFlags := 26, nameIndex := 364, descriptorIndex := 339, attributes := #[] }, { accessFlags := 26, nameIndex := 365, descriptorIndex := 339, attributes := #[] }, { accessFlags := 26, nameIndex := 172, descriptorIndex := 173, attributes := #[] }, { accessFlags := 26, nameIndex := 176, descriptorIndex := 173, attributes := #[] }, { accessFlags := 8, nameIndex := 344, descriptorIndex := 339, attributes := #[] }, { accessFlags := 8, nameIndex := 338, descriptorIndex := 339, attributes := #[] }, { accessFlags := 4120, nameIndex := 245, descriptorIndex := 246, attributes := #[] }])
  fields := #[{ name := "E", type := .double, accessFlags := 25, slot := 0, constantValue := 0 }, { name := "PI", type := .double, accessFlags := 25, slot := 1, constantValue := 0 }, { name := "TAU", type := .double, accessFlags := 25, slot := 2, constantValue := 0 }, { name := "DEGREES_TO_RADIANS", type := .double, accessFlags := 26, slot := 3, constantValue := 0 }, { name := "RADIANS_TO_DEGREES", type := .double, accessFlags := 26, slot := 4, constantValue := 0 }, { name := "negativeZeroFloatBits", type := .long, accessFlags := 26, slot := 5, constantValue := 0 }, { name := "negativeZeroDoubleBits", type := .long, accessFlags := 26, slot := 6, constantValue := 0 }, { name := "twoToTheDoubleScaleUp", type := .double, accessFlags := 8, slot := 7, constantValue := 0 }, { name := "twoToTheDoubleScaleDown", type := .double, accessFlags := 8, slot := 8, constantValue := 0 }, { name := "$assertionsDisabled", type := .boolean, accessFlags := 4120, slot := 9, constantValue := 0 }]
  methods := #[k3m0, k3m1, k3m2, k3m3]
  instanceTypes := #[]
  staticTypes := #[.double, .double, .double, .double, .double, .long, .long, .double, .double, .boolean]
  resolved := Array.replicate 460 none
  statics := none }

def pool4 : Array CpInfo := pool [(2, .class_ 4), (1, u "java/lang/Object"), (0, u "<init>"), (0, u "()V"), (5, u "([IIII)V"), (0, .methodref 14 15), (0, .class_ 16), (0, .nameAndType 17 18), (0, u "java/util/Arrays"), (0, u "rangeCheck"), (0, u "(III)V"), (55, .class_ 76), (1, u "java/util/Arrays$NaturalOrder"), (36, .class_ 115), (1, u "java/util/Arrays$LegacyMergeSort"), (1, u "Z"), (32, .methodref 151 152), (0, .class_ 153), (0, .nameAndType 154 155), (0, u "java/lang/System"), (0, u "arraycopy"), (0, u "(Ljava/lang/Object;ILjava/lang/Object;II)V"), (146, u "copyOf"), (1, .methodref 305 306), (0, .class_ 307), (0, .nameAndType 308 309), (0, u "java/lang/Math"), (0, u "min"), (0, u "(II)I"), (65, .class_ 376), (0, u "java/util/Arrays$ArrayList"), (68, u "$assertionsDisabled"), (269, u "MIN_ARRAY_SORT_GRAN"), (0, u "I"), (2, u "INSERTIONSORT_THRESHOLD"), (120, u "fill"), (30, u "([II)[I"), (103, .class_ 976), (0, u "java/util/Arrays$ArrayItr")] 52

def k4m0 : Method := { name := "<init>", desc := "()V", sig := { parameters := [], returnType := none }, accessFlags := 2, code := none }
def k4c1 : Code := { maxStack := 4, maxLocals := 3, code := jdk_65_method_30_code, exceptionTable := #[], attributes := #[] }
def k4m1 : Method := { name := "rangeCheck", desc := "(III)V", sig := { parameters := [.int, .int, .int], returnType := none }, accessFlags := 8, code := some k4c1 }
def k4c2 : Code := { maxStack := 3, maxLocals := 5, code := jdk_65_method_104_code, exceptionTable := #[], attributes := #[] }
def k4m2 : Method := { name := "fill", desc := "([IIII)V", sig := { parameters := [(.array .int), .int, .int, .int], returnType := none }, accessFlags := 9, code := some k4c2 }
def k4c3 : Code := { maxStack := 6, maxLocals := 3, code := jdk_65_method_123_code, exceptionTable := #[], attributes := #[] }
def k4m3 : Method := { name := "copyOf", desc := "([II)[I", sig := { parameters := [(.array .int), .int], returnType := some (.array .int) }, accessFlags := 9, code := some k4c3 }
/-- java/util/Arrays -/
def k4 : Class := { plain "java/util/Arrays" (some 0) with
  accessFlags := 49
  interfaces := #[]
  cf := some (fileOf pool4 14 #[.nestMembers #[975, 375, 113, 74]] #[{ accessFlags := 2, nameIndex := 5, descriptorIndex := 6, attributes := #[] }, { accessFlags := 8, nameIndex := 17, descriptorIndex := 18, attributes := #[] }, { accessFlags := 9, nameIndex := 840, descriptorIndex := 12, attributes := #[] }, { accessFlags := 9, nameIndex := 302, descriptorIndex := 871, attributes := #[] }] 49 2 #[] #[{ accessFlags := 26, nameIndex := 715, descriptorIndex := 716, attributes := #[] }, { accessFlags := 26, nameIndex := 719, descriptorIndex := 716, attributes := #[] }, { accessFlags := 4120, nameIndex := 445, descriptorIndex := 117, attributes := #[] }])
  fields := #[{ name := "MIN_ARRAY_SORT_GRAN", type := .int, accessFlags := 26, slot := 0, constantValue := 0 }, { name := "INSERTIONSORT_THRESHOLD", type := .int, accessFlags := 26, slot := 1, constantValue := 0 }, { name := "$assertionsDisabled", type := .boolean, accessFlags := 4120, slot := 2, constantValue := 0 }]
  methods := #[k4m0, k4m1, k4m2, k4m3]
  instanceTypes := #[]
  staticTypes := #[.int, .int, .boolean]
  resolved := Array.replicate 1029 none
  statics := none }

def pool5 : Array CpInfo := pool [(2, .class_ 4), (1, u "java/lang/Object"), (0, u "<init>"), (0, u "()V"), (1, .class_ 10), (1, u "java/lang/System"), (0, u "allowSecurityManager"), (0, u "I"), (16, u "cons"), (0, u "Ljava/io/Console;"), (77, .class_ 110), (1, u "java/lang/System$CallersHolder"), (43, u "initialErrStream"), (0, u "Ljava/io/PrintStream;"), (19, u "security"), (0, u "Ljava/lang/SecurityManager;"), (31, .class_ 209), (0, u "java/lang/System$1"), (7, u "props"), (0, u "Ljava/util/Properties;"), (2, u "lineSeparator"), (0, u "Ljava/lang/String;"), (96, .class_ 321), (1, u "java/lang/System$LoggerFinder"), (5, .class_ 328), (0, u "java/lang/System$Logger"), (67, u "err"), (2, u "out"), (91, u "notSupportedJnuEncoding"), (15, u "in"), (17, u "initialIn"), (0, u "Ljava/io/InputStream;"), (35, u "bootLayer"), (0, u "Ljava/lang/ModuleLayer;"), (99, .class_ 664), (0, u "java/lang/System$2"), (9, u "NEVER"), (2, u "MAYBE"), (49, u "arraycopy"), (0, u "(Ljava/lang/Object;ILjava/lang/Object;II)V"), (72, .class_ 802), (0, u "java/lang/System$Logger$Level")] 31

def k5m0 : Method := { name := "<init>", desc := "()V", sig := { parameters := [], returnType := none }, accessFlags := 2, code := none }
def k5m1 : Method := { name := "arraycopy", desc := "(Ljava/lang/Object;ILjava/lang/Object;II)V", sig := { parameters := [(.object "java/lang/Object"), .int, (.object "java/lang/Object"), .int, .int], returnType := none }, accessFlags := 265, code := none }
/-- java/lang/System -/
def k5 : Class := { plain "java/lang/System" (some 0) with
  accessFlags := 49
  interfaces := #[]
  cf := some (fileOf pool5 8 #[.nestMembers #[319, 327, 801, 108, 663, 208]] #[{ accessFlags := 2, nameIndex := 5, descriptorIndex := 6, attributes := #[] }, { accessFlags := 265, nameIndex := 727, descriptorIndex := 728, attributes := #[] }] 49 2 #[] #[{ accessFlags := 25, nameIndex := 507, descriptorIndex := 526, attributes := #[] }, { accessFlags := 25, nameIndex := 399, descriptorIndex := 155, attributes := #[] }, { accessFlags := 25, nameIndex := 396, descriptorIndex := 155, attributes := #[] }, { accessFlags := 10, nameIndex := 525, descriptorIndex := 526, attributes := #[] }, { accessFlags := 26, nameIndex := 674, descriptorIndex := 12, attributes := #[] }, { accessFlags := 26, nameIndex := 677, descriptorIndex := 12, attributes := #[] }, { accessFlags := 10, nameIndex := 11, descriptorIndex := 12, attributes := #[] }, { accessFlags := 74, nameIndex := 175, descriptorIndex := 176, attributes := #[] }, { accessFlags := 10, nameIndex := 491, descriptorIndex := 222, attributes := #[] }, { accessFlags := 74, nameIndex := 29, descriptorIndex := 30, attributes := #[] }, { accessFlags := 74, nameIndex := 154, descriptorIndex := 155, attributes := #[] }, { accessFlags := 10, nameIndex := 217, descriptorIndex := 218, attributes := #[] }, { accessFlags := 10, nameIndex := 221, descriptorIndex := 222, attributes := #[] }, { accessFlags := 8, nameIndex := 562, descriptorIndex := 563, attributes := #[] }])
  fields := #[{ name := "in", type := (.object "java/io/InputStream"), accessFlags := 25, slot := 0, constantValue := 0 }, { name := "out", type := (.object "java/io/PrintStream"), accessFlags := 25, slot := 1, constantValue := 0 }, { name := "err", type := (.object "java/io/PrintStream"), accessFlags := 25, slot := 2, constantValue := 0 }, { name := "initialIn", type := (.object "java/io/InputStream"), accessFlags := 10, slot := 3, constantValue := 0 }, { name := "NEVER", type := .int, accessFlags := 26, slot := 4, constantValue := 0 }, { name := "MAYBE", type := .int, accessFlags := 26, slot := 5, constantValue := 0 }, { name := "allowSecurityManager", type := .int, accessFlags := 10, slot := 6, constantValue := 0 }, { name := "security", type := (.object "java/lang/SecurityManager"), accessFlags := 74, slot := 7, constantValue := 0 }, { name := "notSupportedJnuEncoding", type := (.object "java/lang/String"), accessFlags := 10, slot := 8, constantValue := 0 }, { name := "cons", type := (.object "java/io/Console"), accessFlags := 74, slot := 9, constantValue := 0 }, { name := "initialErrStream", type := (.object "java/io/PrintStream"), accessFlags := 74, slot := 10, constantValue := 0 }, { name := "props", type := (.object "java/util/Properties"), accessFlags := 10, slot := 11, constantValue := 0 }, { name := "lineSeparator", type := (.object "java/lang/String"), accessFlags := 10, slot := 12, constantValue := 0 }, { name := "bootLayer", type := (.object "java/lang/ModuleLayer"), accessFlags := 8, slot := 13, constantValue := 0 }]
  methods := #[k5m0, k5m1]
  instanceTypes := #[]
  staticTypes := #[(.object "java/io/InputStream"), (.object "java/io/PrintStream"), (.object "java/io/PrintStream"), (.object "java/io/InputStream"), .int, .int, .int, (.object "java/lang/SecurityManager"), (.object "java/lang/String"), (.object "java/io/Console"), (.object "java/io/PrintStream"), (.object "java/util/Properties"), (.object "java/lang/String"), (.object "java/lang/ModuleLayer")]
  resolved := Array.replicate 834 none
  statics := none }

def pool6 : Array CpInfo := pool [(1, u "java/lang/Cloneable"), (0, .class_ 1), (0, u "java/lang/Object"), (0, .class_ 3)] 3

/-- java/lang/Cloneable -/
def k6 : Class := { plain "java/lang/Cloneable" (some 0) with
  accessFlags := 1537
  interfaces := #[]
  cf := some (fileOf pool6 2 #[] #[] 1537 4 #[] #[])
  fields := #[]
  methods := #[]
  instanceTypes := #[]
  staticTypes := #[]
  resolved := Array.replicate 8 none
  statics := none }

def pool7 : Array CpInfo := pool [(1, u "java/io/Serializable"), (0, .class_ 1), (0, u "java/lang/Object"), (0, .class_ 3)] 3

/-- java/io/Serializable -/
def k7 : Class := { plain "java/io/Serializable" (some 0) with
  accessFlags := 1537
  interfaces := #[]
  cf := some (fileOf pool7 2 #[] #[] 1537 4 #[] #[])
  fields := #[]
  methods := #[]
  instanceTypes := #[]
  staticTypes := #[]
  resolved := Array.replicate 8 none
  statics := none }

/-- the primitive byte -/
def k8 : Class := { plain "byte" none with kind := .primitive 'B', accessFlags := 0x411 }
/-- [B -/
def k9 : Class := { plain "[B" (some 0) with kind := .array 8 .byte, interfaces := #[6, 7], accessFlags := 1041 }

/-- the primitive int -/
def k10 : Class := { plain "int" none with kind := .primitive 'I', accessFlags := 0x411 }
/-- [I -/
def k11 : Class := { plain "[I" (some 0) with kind := .array 10 .int, interfaces := #[6, 7], accessFlags := 1041 }

def heap : Heap := #[]
def classes : Array Class := #[k0, k1, k2, k3, k4, k5, k6, k7, k8, k9, k10, k11]
def interned : List (Array UInt16 × Addr) := []
def slotsUsed : Nat := 0
def theMethod : MethodId := ⟨1, 1⟩
def args0 : Array Value := #[.int 2001, .int 900, .int 2002, .int 1000, .int 2003, .int 11]
def aboutOver (below : List Frame) : State where
  vm := { classes := classes, interned := interned.toArray }
  heap := heap
  slotsUsed := slotsUsed
  threads := #[{ frames := .invoking theMethod args0 :: below }]
def below0 : List Frame := [.native { method := ⟨0, 0⟩, args := #[] }]
def about1 : State := aboutOver below0
def p0 : Program := .bare "" "" ""
def e0 : Env := launch0.env 0 0 0
theorem w_frames : about1.frames = Frame.invoking theMethod args0 :: below0 := rfl
set_option maxRecDepth 65536 in
theorem w_args : argsFit about1.vm theMethod args0 = true := by decide +kernel
set_option maxRecDepth 65536 in
theorem w_heap : heapFits about1 = true := by decide +kernel
set_option maxRecDepth 65536 in
theorem w_runnable : about1.curStatus? = some .runnable := by decide +kernel
set_option maxRecDepth 65536 in
theorem w_alone : about1.alone = true := by decide +kernel
set_option maxRecDepth 65536 in
theorem w_named : about1.methodNamed? x = some theMethod := by decide +kernel
set_option maxRecDepth 65536 in
theorem w_hears : about1.hears theMethod below0 = true := by decide +kernel
set_option maxRecDepth 65536 in
theorem w_ripe : about1.ripe theMethod args0 below0 = true := by decide +kernel
theorem w_running : about1.status = .running := rfl
set_option maxRecDepth 65536 in
theorem w_room : about1.hasRoom e0.platform room_1 = true :=
  launch0.hasRoom_least _ room_1 (by decide +kernel) (by decide +kernel) (by decide +kernel) (by decide +kernel) (by decide +kernel) (by decide +kernel)
theorem allAtoms_all (ts : List Jvm.Cond) (a : Array Jvm.Value) (st : Jvm.State) : (allAtoms ts).before a st = ts.all (fun c => c.before a st) := by
  induction ts with
  | nil => rfl
  | cons c t ih =>
    show (Jvm.Cond.and c (allAtoms t)).before a st = _
    rw [Jvm.Cond.before_and, ih, List.all_cons]
def words1 : List Jvm.Cond := Jvm.Cond.code x code maxLocals ret :: tables_1
/-- a 'code' word, met by the world's own term for the bytes: nothing is compared byte by byte -/
theorem code_word {y : MethodName} {bytes : ByteArray} {mx : Nat} {rt : Option FieldType} {a : Array Value} {s : State} {m : MethodId} {meth : Method} {c : Code} (h1 : s.methodNamed? y = some m) (h2 : s.vm.method? m = some meth) (h3 : meth.code = some c) (h4 : c.code = bytes)
    (h5 : (c.maxLocals == mx && c.exceptionTable.isEmpty && decide (c.maxStack ≤ mostOperands) && decide (meth.sig.returnType = rt) && !meth.locks && decide (parseMethodDescriptor y.desc = some meth.sig)) = true) : (Jvm.Cond.code y bytes mx rt).before a s = true := by
  simp only [Bool.and_eq_true, beq_iff_eq, Bool.not_eq_true', decide_eq_true_eq] at h5
  obtain ⟨⟨⟨⟨⟨g1, g2⟩, g3⟩, g4⟩, g5⟩, g6⟩ := h5
  simp [Cond.before, Cond.holds, Cond.value, h1, h2, h3, h4, g1, g2, g3, g4, g5, g6]
def isCode : Jvm.Cond → Bool
  | .code _ _ _ _ => true
  | _ => false
theorem all_split {L : List Jvm.Cond} {P : Jvm.Cond → Bool} (h1 : L.all (fun c => isCode c || P c) = true) (h2 : ∀ c ∈ L.filter isCode, P c = true) : L.all P = true := by
  refine List.all_eq_true.mpr fun c hc => ?_
  have h := List.all_eq_true.mp h1 c hc
  rcases Bool.eq_false_or_eq_true (isCode c) with hi | hi
  · exact h2 c (List.mem_filter.mpr ⟨hc, hi⟩)
  · simpa [hi] using h
set_option maxRecDepth 65536 in
theorem w_c0 : (Jvm.Cond.code x code maxLocals ret).before args0 about1 = true := code_word (m := ⟨1, 1⟩) (meth := k1m1) (c := k1c1) (by decide +kernel) rfl rfl rfl (by decide +kernel)
set_option maxRecDepth 65536 in
theorem w_c1 : (Jvm.Cond.code ({ cls := "com/example/vestline/vestline/HoursHistories", name := "<init>", desc := "()V" } : Jvm.MethodName) prog_12_method_1_code (1 : Nat) (Option.none : Option Jvm.ClassFile.FieldType)).before args0 about1 = true := code_word (m := ⟨2, 0⟩) (meth := k2m0) (c := k2c0) (by decide +kernel) rfl rfl rfl (by decide +kernel)
set_option maxRecDepth 65536 in
theorem w_c2 : (Jvm.Cond.code ({ cls := "java/lang/Object", name := "<init>", desc := "()V" } : Jvm.MethodName) object_method_1_code (1 : Nat) (Option.none : Option Jvm.ClassFile.FieldType)).before args0 about1 = true := code_word (m := ⟨0, 0⟩) (meth := k0m0) (c := k0c0) (by decide +kernel) rfl rfl rfl (by decide +kernel)
set_option maxRecDepth 65536 in
theorem w_c3 : (Jvm.Cond.code ({ cls := "com/example/vestline/vestline/HoursHistories", name := "add", desc := "()I" } : Jvm.MethodName) prog_12_method_2_code (2 : Nat) (Option.some Jvm.ClassFile.FieldType.int)).before args0 about1 = true := code_word (m := ⟨2, 1⟩) (meth := k2m1) (c := k2c1) (by decide +kernel) rfl rfl rfl (by decide +kernel)
set_option maxRecDepth 65536 in
theorem w_c4 : (Jvm.Cond.code ({ cls := "com/example/vestline/vestline/HoursHistories", name := "room", desc := "([III)[I" } : Jvm.MethodName) prog_12_method_17_code (3 : Nat) (Option.some (Jvm.ClassFile.FieldType.array Jvm.ClassFile.FieldType.int))).before args0 about1 = true := code_word (m := ⟨2, 6⟩) (meth := k2m6) (c := k2c6) (by decide +kernel) rfl rfl rfl (by decide +kernel)
set_option maxRecDepth 65536 in
theorem w_c5 : (Jvm.Cond.code ({ cls := "java/lang/Math", name := "multiplyExact", desc := "(II)I" } : Jvm.MethodName) jdk_29_method_28_code (4 : Nat) (Option.some Jvm.ClassFile.FieldType.int)).before args0 about1 = true := code_word (m := ⟨3, 1⟩) (meth := k3m1) (c := k3c1) (by decide +kernel) rfl rfl rfl (by decide +kernel)
set_option maxRecDepth 65536 in
theorem w_c6 : (Jvm.Cond.code ({ cls := "java/lang/Math", name := "max", desc := "(II)I" } : Jvm.MethodName) jdk_29_method_65_code (2 : Nat) (Option.some Jvm.ClassFile.FieldType.int)).before args0 about1 = true := code_word (m := ⟨3, 2⟩) (meth := k3m2) (c := k3c2) (by decide +kernel) rfl rfl rfl (by decide +kernel)
set_option maxRecDepth 65536 in
theorem w_c7 : (Jvm.Cond.code ({ cls := "java/util/Arrays", name := "copyOf", desc := "([II)[I" } : Jvm.MethodName) jdk_65_method_123_code (3 : Nat) (Option.some (Jvm.ClassFile.FieldType.array Jvm.ClassFile.FieldType.int))).before args0 about1 = true := code_word (m := ⟨4, 3⟩) (meth := k4m3) (c := k4c3) (by decide +kernel) rfl rfl rfl (by decide +kernel)
set_option maxRecDepth 65536 in
theorem w_c8 : (Jvm.Cond.code ({ cls := "java/lang/Math", name := "min", desc := "(II)I" } : Jvm.MethodName) jdk_29_method_69_code (2 : Nat) (Option.some Jvm.ClassFile.FieldType.int)).before args0 about1 = true := code_word (m := ⟨3, 3⟩) (meth := k3m3) (c := k3c3) (by decide +kernel) rfl rfl rfl (by decide +kernel)
set_option maxRecDepth 65536 in
theorem w_c9 : (Jvm.Cond.code ({ cls := "java/util/Arrays", name := "fill", desc := "([IIII)V" } : Jvm.MethodName) jdk_65_method_104_code (5 : Nat) (Option.none : Option Jvm.ClassFile.FieldType)).before args0 about1 = true := code_word (m := ⟨4, 2⟩) (meth := k4m2) (c := k4c2) (by decide +kernel) rfl rfl rfl (by decide +kernel)
set_option maxRecDepth 65536 in
theorem w_c10 : (Jvm.Cond.code ({ cls := "java/util/Arrays", name := "rangeCheck", desc := "(III)V" } : Jvm.MethodName) jdk_65_method_30_code (3 : Nat) (Option.none : Option Jvm.ClassFile.FieldType)).before args0 about1 = true := code_word (m := ⟨4, 1⟩) (meth := k4m1) (c := k4c1) (by decide +kernel) rfl rfl rfl (by decide +kernel)
set_option maxRecDepth 65536 in
theorem w_c11 : (Jvm.Cond.code ({ cls := "com/example/vestline/vestline/HoursHistories", name := "addYear", desc := "(III)V" } : Jvm.MethodName) prog_12_method_4_code (5 : Nat) (Option.none : Option Jvm.ClassFile.FieldType)).before args0 about1 = true := code_word (m := ⟨2, 2⟩) (meth := k2m2) (c := k2c2) (by decide +kernel) rfl rfl rfl (by decide +kernel)
set_option maxRecDepth 65536 in
theorem w_c12 : (Jvm.Cond.code ({ cls := "com/example/vestline/vestline/HoursHistories", name := "link", desc := "([IIIII)V" } : Jvm.MethodName) prog_12_method_16_code (8 : Nat) (Option.none : Option Jvm.ClassFile.FieldType)).before args0 about1 = true := code_word (m := ⟨2, 5⟩) (meth := k2m5) (c := k2c5) (by decide +kernel) rfl rfl rfl (by decide +kernel)
set_option maxRecDepth 65536 in
theorem w_c13 : (Jvm.Cond.code ({ cls := "com/example/vestline/vestline/HoursHistoriesYearsAndHoursPinLaw", name := "put", desc := "([IIII)I" } : Jvm.MethodName) method_3_code (4 : Nat) (Option.some Jvm.ClassFile.FieldType.int)).before args0 about1 = true := code_word (m := ⟨1, 2⟩) (meth := k1m2) (c := k1c2) (by decide +kernel) rfl rfl rfl (by decide +kernel)
set_option maxRecDepth 65536 in
theorem w_c14 : (Jvm.Cond.code ({ cls := "com/example/vestline/vestline/HoursHistories", name := "yearsAndHours", desc := "(I)[I" } : Jvm.MethodName) prog_12_method_11_code (6 : Nat) (Option.some (Jvm.ClassFile.FieldType.array Jvm.ClassFile.FieldType.int))).before args0 about1 = true := code_word (m := ⟨2, 3⟩) (meth := k2m3) (c := k2c3) (by decide +kernel) rfl rfl rfl (by decide +kernel)
set_option maxRecDepth 65536 in
theorem w_c15 : (Jvm.Cond.code ({ cls := "com/example/vestline/vestline/HoursHistories", name := "field", desc := "(II)I" } : Jvm.MethodName) prog_12_method_13_code (3 : Nat) (Option.some Jvm.ClassFile.FieldType.int)).before args0 about1 = true := code_word (m := ⟨2, 4⟩) (meth := k2m4) (c := k2c4) (by decide +kernel) rfl rfl rfl (by decide +kernel)
set_option maxRecDepth 65536 in
theorem w_c16 : (Jvm.Cond.code ({ cls := "com/example/vestline/vestline/HoursHistoriesYearsAndHoursPinLaw", name := "same", desc := "([I[II)Z" } : Jvm.MethodName) method_4_code (3 : Nat) (Option.some Jvm.ClassFile.FieldType.boolean)).before args0 about1 = true := code_word (m := ⟨1, 3⟩) (meth := k1m3) (c := k1c3) (by decide +kernel) rfl rfl rfl (by decide +kernel)
def codes1 : List Jvm.Cond := [Jvm.Cond.code x code maxLocals ret, Jvm.Cond.code ({ cls := "com/example/vestline/vestline/HoursHistories", name := "<init>", desc := "()V" } : Jvm.MethodName) prog_12_method_1_code (1 : Nat) (Option.none : Option Jvm.ClassFile.FieldType), Jvm.Cond.code ({ cls := "java/lang/Object", name := "<init>", desc := "()V" } : Jvm.MethodName) object_method_1_code (1 : Nat) (Option.none : Option Jvm.ClassFile.FieldType), Jvm.Cond.code ({ cls := "com/example/vestline/vestline/HoursHistories", name := "add", desc := "()I" } : Jvm.MethodName) prog_12_method_2_code (2 : Nat) (Option.some Jvm.ClassFile.FieldType.int), Jvm.Cond.code ({ cls := "com/example/vestline/vestline/HoursHistories", name := "room", desc := "([III)[I" } : Jvm.MethodName) prog_12_method_17_code (3 : Nat) (Option.some (Jvm.ClassFile.FieldType.array Jvm.ClassFile.FieldType.int)), Jvm.Cond.code ({ cls := "java/lang/Math", name := "multiplyExact", desc := "(II)I" } : Jvm.MethodName) jdk_29_method_28_code (4 : Nat) (Option.some Jvm.ClassFile.FieldType.int), Jvm.Cond.code ({ cls := "java/lang/Math", name := "max", desc := "(II)I" } : Jvm.MethodName) jdk_29_method_65_code (2 : Nat) (Option.some Jvm.ClassFile.FieldType.int), Jvm.Cond.code ({ cls := "java/util/Arrays", name := "copyOf", desc := "([II)[I" } : Jvm.MethodName) jdk_65_method_123_code (3 : Nat) (Option.some (Jvm.ClassFile.FieldType.array Jvm.ClassFile.FieldType.int)), Jvm.Cond.code ({ cls := "java/lang/Math", name := "min", desc := "(II)I" } : Jvm.MethodName) jdk_29_method_69_code (2 : Nat) (Option.some Jvm.ClassFile.FieldType.int), Jvm.Cond.code ({ cls := "java/util/Arrays", name := "fill", desc := "([IIII)V" } : Jvm.MethodName) jdk_65_method_104_code (5 : Nat) (Option.none : Option Jvm.ClassFile.FieldType), Jvm.Cond.code ({ cls := "java/util/Arrays", name := "rangeCheck", desc := "(III)V" } : Jvm.MethodName) jdk_65_method_30_code (3 : Nat) (Option.none : Option Jvm.ClassFile.FieldType), Jvm.Cond.code ({ cls := "com/example/vestline/vestline/HoursHistories", name := "addYear", desc := "(III)V" } : Jvm.MethodName) prog_12_method_4_code (5 : Nat) (Option.none : Option Jvm.ClassFile.FieldType), Jvm.Cond.code ({ cls := "com/example/vestline/vestline/HoursHistories", name := "link", desc := "([IIIII)V" } : Jvm.MethodName) prog_12_method_16_code (8 : Nat) (Option.none : Option Jvm.ClassFile.FieldType), Jvm.Cond.code ({ cls := "com/example/vestline/vestline/HoursHistoriesYearsAndHoursPinLaw", name := "put", desc := "([IIII)I" } : Jvm.MethodName) method_3_code (4 : Nat) (Option.some Jvm.ClassFile.FieldType.int), Jvm.Cond.code ({ cls := "com/example/vestline/vestline/HoursHistories", name := "yearsAndHours", desc := "(I)[I" } : Jvm.MethodName) prog_12_method_11_code (6 : Nat) (Option.some (Jvm.ClassFile.FieldType.array Jvm.ClassFile.FieldType.int)), Jvm.Cond.code ({ cls := "com/example/vestline/vestline/HoursHistories", name := "field", desc := "(II)I" } : Jvm.MethodName) prog_12_method_13_code (3 : Nat) (Option.some Jvm.ClassFile.FieldType.int), Jvm.Cond.code ({ cls := "com/example/vestline/vestline/HoursHistoriesYearsAndHoursPinLaw", name := "same", desc := "([I[II)Z" } : Jvm.MethodName) method_4_code (3 : Nat) (Option.some Jvm.ClassFile.FieldType.boolean)]
set_option maxRecDepth 65536 in
theorem codes_eq : words1.filter isCode = codes1 := rfl
theorem w_codes : ∀ c ∈ words1.filter isCode, c.before args0 about1 = true := by
  rw [codes_eq]
  intro c hc
  simp only [codes1, List.mem_cons, List.not_mem_nil, or_false] at hc
  rcases hc with rfl | rfl | rfl | rfl | rfl | rfl | rfl | rfl | rfl | rfl | rfl | rfl | rfl | rfl | rfl | rfl | rfl
  · exact w_c0
  · exact w_c1
  · exact w_c2
  · exact w_c3
  · exact w_c4
  · exact w_c5
  · exact w_c6
  · exact w_c7
  · exact w_c8
  · exact w_c9
  · exact w_c10
  · exact w_c11
  · exact w_c12
  · exact w_c13
  · exact w_c14
  · exact w_c15
  · exact w_c16
set_option maxRecDepth 65536 in
theorem w_t1 : (words1.take 24).all (fun c => isCode c || c.before args0 about1) = true := by decide +kernel
set_option maxRecDepth 65536 in
theorem w_t2 : ((words1.drop 24).take 24).all (fun c => isCode c || c.before args0 about1) = true := by decide +kernel
set_option maxRecDepth 65536 in
theorem w_t3 : (((words1.drop 24).drop 24).take 24).all (fun c => isCode c || c.before args0 about1) = true := by decide +kernel
set_option maxRecDepth 65536 in
theorem w_t4 : (((words1.drop 24).drop 24).drop 24).all (fun c => isCode c || c.before args0 about1) = true := by decide +kernel
theorem w_tables : (allAtoms (Jvm.Cond.code x code maxLocals ret :: tables_1)).before args0 about1 = true := by
  rw [allAtoms_all]
  show words1.all (fun c => c.before args0 about1) = true
  refine all_split ?_ w_codes
  rw [← List.take_append_drop 24 words1, List.all_append, w_t1, ← List.take_append_drop 24 (words1.drop 24), List.all_append, w_t2, ← List.take_append_drop 24 ((words1.drop 24).drop 24), List.all_append, w_t3, w_t4]
  rfl
set_option maxRecDepth 65536 in
theorem w_case : (Jvm.Cond.and given_1 narrow_1).before args0 about1 = true := by decide +kernel
theorem w_applies : (headSpec (Jvm.Cond.code x code maxLocals ret :: tables_1) room_1).applies x e0.platform about1 = true :=
  (Spec.applies_iff w_frames).mpr ⟨w_running, w_runnable, w_alone, w_named, w_hears, w_ripe, w_room, w_tables⟩
theorem atStart : AtStart classFile x code maxLocals ret World_1 tables_1 room_1 Calls_1 rest_1 Pre_1 launch0 p0 e0 about1 theMethod args0 below0 :=
  ⟨lists_1, trivial, launch0.admits_env _ _ _, launch0.least_env, fairChoices_fair.cas, fairChoices_fair.clock, w_frames, w_args, w_heap, w_applies, trivial, trivial, w_case⟩
end start1
theorem witness_1 : WitnessClaimed_1 := ⟨start1.p0, start1.e0, start1.about1, start1.theMethod, start1.args0, start1.below0, start1.atStart⟩
end Jvm.Pilot.@@N@@
