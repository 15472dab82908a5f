import JvmDerived
import JvmDerived.Pilot.@@N@@Statement
import JvmDerived.Pilot.@@N@@Code
set_option linter.unusedVariables false
set_option linter.unusedSimpArgs false
namespace Jvm.Pilot.@@N@@
open Jvm Jvm.ClassFile Sem Op Lib Jvm.Free Jvm.Stand Jvm.LawKit Jvm.RoadKit Bundle Jvm.Pilot.@@N@@.Jvm.D
/-! ## my own layer: a walk read forward (Wk), where it stands (Hr), what a body promises (Con) -/
/-- from the state a the walk ends, and G holds of its end -/
def Wk (tb : Tables) (e : Env) (below : List Frame) (G : State → Outcome → Prop) (a : State) : Prop := ∃ t o, Steps tb e below a t ∧ t.status = .running ∧ Ended t below o ∧ G t o
theorem Wk.go {tb : Tables} {e : Env} {below : List Frame} {G : State → Outcome → Prop} {a b : State} (f : ∀ t, Steps tb e below b t → Steps tb e below a t) (k : Wk tb e below G b) : Wk tb e below G a := by
  obtain ⟨t, o, q, r⟩ := k
  exact ⟨t, o, f t q, r⟩
/-- where a walk stands: the library's Stand, with all that a step asks; nothing below n0 was written -/
def Hr (p : Program) (l : Launch) (e : Env) (R : Room) (s : State) (m : MethodId) (args : Array Value) (below : List Frame) (meth : Method) (c : Code) (Z : State) (own : String) (bs : ByteArray) (ml n0 : Nat) (rt : Option FieldType) (T : State) (h : Heap) (cells slots : Nat) : Prop :=
  (∃ locs, Stand p l e R s m args below meth c T locs cells slots ∧ Fr n0 locs) ∧ p.tables.exec = Jvm.exec ∧ c.code = bs ∧ c.maxLocals = ml ∧ Z.Warmed39 s.vm ∧ s.vm.findClass own = some m.cls ∧ meth.sig.returnType = rt ∧ meth.locks = false ∧ T.heap = h
/-- the end that a contract speaks of -/
def Gl (s : State) (n0 : Nat) (Q : Option Value → Heap → Prop) (C N : Nat) (t : State) (o : Outcome) : Prop := ∃ v L, o = .returned v ∧ (Q v t.heap ∧ Fr n0 L) ∧ FrameEnd s o t L C N
/-- what a body promises: started with these arguments at this heap it returns, and Q holds of the value and the heap -/
abbrev Con (l : Launch) (y : MethodName) (bytes : ByteArray) (maxL : Nat) (rt : Option FieldType) (rm : Room) (ws : List Jvm.Cond) (Z : State) (as' : Array Value) (h0 : Heap) (n0 : Nat) (Q : Option Value → Heap → Prop) : Prop :=
  MetFree l y (head1 (Jvm.Cond.code y bytes maxL rt :: ws) rm) (fun a U => a = as' ∧ Z.Warmed39 U.vm ∧ U.heap = h0) (fun _ _ _ _ _ => True) (fun _ U o U' => ∃ v L, o = .returned v ∧ (Q v U'.heap ∧ Fr n0 L) ∧ FrameEnd U o U' L rm.cells rm.slots)
theorem Con.of {l : Launch} {y : MethodName} {bytes : ByteArray} {maxL : Nat} {rt : Option FieldType} {rm : Room} {ws : List Jvm.Cond} {Z : State} {as' : Array Value} {h0 : Heap} {n0 : Nat} {Q : Option Value → Heap → Prop} (hp : plainFor y = true)
    (body : ∀ p e s m below meth c T, Hr p l e rm s m as' below meth c Z y.cls bytes maxL n0 rt T h0 0 0 → meth.name = y.name → Wk p.tables e below (Gl s n0 Q rm.cells rm.slots) (T.setTop (entryFrame m as' maxL))) : Con l y bytes maxL rt rm ws Z as' h0 n0 Q := by
  refine MetFree.of_bodySF hp hisR ?_
  intro p e s m args below meth c s₁ Bd hml0 hP hK
  obtain ⟨rfl, hZ, hh⟩ := hP
  have e0 : s₁.heap = h0 := by rw [← hh, Bd.state]; rfl
  exact body p e s m below meth c s₁ ⟨⟨[], Stand.of_body Bd, Fr.nil n0⟩, Bd.exec, Bd.bytes, hml0, hZ, findClass_of_methodNamed Bd.named, Bd.returns, Bd.notSynchronized, e0⟩ (name_of_methodNamed Bd.named Bd.method).1
/-- an array and all that it holds -/
def Arl (Z : State) (h : Heap) (a : Addr) (ty : FieldType) (us : List Value) : Prop := ∃ cl : Cell, Arr Z h a cl ty ∧ cl.slots = us.toArray ∧ us.length < 2 ^ 31
section Layer
variable {p : Program} {l : Launch} {e : Env} {R : Room} {s : State} {m : MethodId} {args : Array Value} {below : List Frame} {meth : Method} {c : Code} {Z : State} {own : String} {bs : ByteArray} {ml n0 : Nat} {rt : Option FieldType} {T : State} {h h' : Heap} {cells slots : Nat} {G : State → Outcome → Prop} {pc : Nat} {Ls : Array Slot} {st : List Value} {a0 : Array Value}
theorem Arl.ext {a : Addr} {ty : FieldType} {us : List Value} (A : Arl Z h a ty us) (E : Ext h h') : Arl Z h' a ty us := by
  obtain ⟨cl, A, r⟩ := A; exact ⟨cl, A.ext E, r⟩
theorem Arl.lt {a : Addr} {ty : FieldType} {us : List Value} (A : Arl Z h a ty us) : a < h.size := by
  obtain ⟨cl, A, r⟩ := A; exact A.lt
theorem Arl.other {a b : Addr} {ty : FieldType} {us : List Value} {sl : Nat} {v : Value} (A : Arl Z h b ty us) (W : Wr h h' a sl v) (q : b ≠ a) : Arl Z h' b ty us := by
  obtain ⟨cl, A, r⟩ := A; exact ⟨cl, A.other W q, r⟩
theorem Arl.keep {a : Addr} {ty : FieldType} {us : List Value} {ws : List Addr} (A : Arl Z h a ty us) (K : Keep h h' ws) (q : a ∉ ws) : Arl Z h' a ty us := by
  obtain ⟨cl, A, r⟩ := A; exact ⟨cl, ⟨K.2.1 a cl A.1 q, A.2⟩, r⟩
theorem Arl.set {a : Addr} {ty : FieldType} {us : List Value} {i : Nat} {v : Value} (A : Arl Z h a ty us) (W : Wr h h' a i v) : Arl Z h' a ty (us.set i v) := by
  obtain ⟨cl, A, r1, r2⟩ := A
  refine ⟨cl.setSlot i v, A.same W, ?_, by simpa using r2⟩
  simp [Cell.setSlot, r1]
theorem Arl.len {a : Addr} {ty : FieldType} {us : List Value} (A : Arl Z h a ty us) : us.length < 2 ^ 31 := by
  obtain ⟨cl, A, r1, r2⟩ := A; exact r2
theorem Arl.ne {a b : Addr} {ty : FieldType} {us : List Value} {C : String} {k : Nat} (A : Arl Z h a ty us) (E : Exa Z h b C) (wi : (Cond.instantiable C k).before a0 Z = true) : a ≠ b := by
  obtain ⟨cl, A, r⟩ := A; exact (ne_arr E wi A).symm
theorem ix_in {j : Int32} {i n : Nat} (hj : j.toInt = i) (hi : i < n) : ¬ (j < 0 ∨ n ≤ j.toNatClampNeg) ∧ j.toNatClampNeg = i := by
  have q : j.toNatClampNeg = i := by simp [Int32.toNatClampNeg, hj]
  refine ⟨?_, q⟩
  rw [q, Int32.lt_iff_toInt_lt, hj]
  simp only [Int32.reduceToInt]
  omega
theorem len32 {n : Nat} (h : n < 2 ^ 31) : n.toInt32.toInt = n := len_toInt h
/-- the branch is taken -/
def cmpT : ClassFile.Cond → Int32 → Int32 → Prop
  | .eq, x, y => x = y
  | .ne, x, y => ¬ x = y
  | .lt, x, y => x < y
  | .ge, x, y => ¬ x < y
  | .gt, x, y => y < x
  | .le, x, y => ¬ y < x
/-- the branch is not taken -/
def cmpF : ClassFile.Cond → Int32 → Int32 → Prop
  | .eq, x, y => ¬ x = y
  | .ne, x, y => x = y
  | .lt, x, y => ¬ x < y
  | .ge, x, y => x < y
  | .gt, x, y => ¬ y < x
  | .le, x, y => y < x
theorem cmp_t {cd : ClassFile.Cond} {x y : Int32} (q : cmpT cd x y) : if_icmp.holds cd x y = true := by
  cases cd
  · exact (teq q).1
  · exact (feq q).2
  · exact (tlt q).1
  · exact (flt q).2.1
  · exact (tlt q).2.2.1
  · exact (flt q).2.2.2
theorem cmp_f {cd : ClassFile.Cond} {x y : Int32} (q : cmpF cd x y) : if_icmp.holds cd x y = false := by
  cases cd
  · exact (feq q).1
  · exact (teq q).2
  · exact (flt q).1
  · exact (tlt q).2.1
  · exact (flt q).2.2.1
  · exact (tlt q).2.2.2
theorem cmp_or (cd : ClassFile.Cond) (x y : Int32) : cmpT cd x y ∨ cmpF cd x y := by
  cases cd
  · exact Classical.em _
  · exact (Classical.em _).symm
  · exact Classical.em _
  · exact (Classical.em _).symm
  · exact Classical.em _
  · exact (Classical.em _).symm
/-- a step that only moves the frame -/
theorem Wk.pu (X : Hr p l e R s m args below meth c Z own bs ml n0 rt T h cells slots) {a b : State} (f : At T m c below → p.tables.exec = Jvm.exec → c.code = bs → ∀ t, Steps p.tables e below b t → Steps p.tables e below a t) (k : Wk p.tables e below G b) : Wk p.tables e below G a := by
  obtain ⟨⟨locs, Y, N⟩, hx, hc, -⟩ := X
  exact Wk.go (f Y.here hx hc) k
/-- two roads that meet at b: it is walked once -/
theorem Wk.join {a : State} (b : State) (P : Prop) (k2 : P → Wk p.tables e below G b) (k1 : (P → Wk p.tables e below G b) → Wk p.tables e below G a) : Wk p.tables e below G a := k1 k2
theorem Wk.iload (X : Hr p l e R s m args below meth c Z own bs ml n0 rt T h cells slots) {i : Nat} {v : Int32} (hd : decode bs pc = .ok (.iload i, 2)) (pc' : Nat) (hp : pc + 2 = pc') (hl : Ls[i]? = some (.val (.int v))) (k : Wk p.tables e below G (T.setTop (mkF m pc' Ls (.int v :: st)))) : Wk p.tables e below G (T.setTop (mkF m pc Ls st)) := by
  subst hp
  exact Wk.pu X (fun hA hx hc t q => XS.iload hA hx rfl (hb hc hd) hl q) k
theorem Wk.iloadN (X : Hr p l e R s m args below meth c Z own bs ml n0 rt T h cells slots) {i : Fin 4} {v : Int32} (hd : decode bs pc = .ok (.iload_n i, 1)) (pc' : Nat) (hp : pc + 1 = pc') (hl : Ls[i.val]? = some (.val (.int v))) (k : Wk p.tables e below G (T.setTop (mkF m pc' Ls (.int v :: st)))) : Wk p.tables e below G (T.setTop (mkF m pc Ls st)) := by
  subst hp
  exact Wk.pu X (fun hA hx hc t q => XS.iloadN hA hx rfl (hb hc hd) hl q) k
theorem Wk.lload (X : Hr p l e R s m args below meth c Z own bs ml n0 rt T h cells slots) {i : Nat} {v : Int64} (hd : decode bs pc = .ok (.lload i, 2)) (pc' : Nat) (hp : pc + 2 = pc') (hl : Ls[i]? = some (.val (.long v))) (k : Wk p.tables e below G (T.setTop (mkF m pc' Ls (.long v :: st)))) : Wk p.tables e below G (T.setTop (mkF m pc Ls st)) := by
  subst hp
  exact Wk.pu X (fun hA hx hc t q => XS.lload hA hx rfl (hb hc hd) hl q) k
theorem Wk.lloadN (X : Hr p l e R s m args below meth c Z own bs ml n0 rt T h cells slots) {i : Fin 4} {v : Int64} (hd : decode bs pc = .ok (.lload_n i, 1)) (pc' : Nat) (hp : pc + 1 = pc') (hl : Ls[i.val]? = some (.val (.long v))) (k : Wk p.tables e below G (T.setTop (mkF m pc' Ls (.long v :: st)))) : Wk p.tables e below G (T.setTop (mkF m pc Ls st)) := by
  subst hp
  exact Wk.pu X (fun hA hx hc t q => XS.lloadN hA hx rfl (hb hc hd) hl q) k
theorem Wk.aload (X : Hr p l e R s m args below meth c Z own bs ml n0 rt T h cells slots) {i : Nat} {v : Value} (hd : decode bs pc = .ok (.aload i, 2)) (pc' : Nat) (hp : pc + 2 = pc') (hl : Ls[i]? = some (.val v)) (hv : v.isRef = true) (k : Wk p.tables e below G (T.setTop (mkF m pc' Ls (v :: st)))) : Wk p.tables e below G (T.setTop (mkF m pc Ls st)) := by
  subst hp
  exact Wk.pu X (fun hA hx hc t q => XS.aload hA hx rfl (hb hc hd) hl hv q) k
theorem Wk.aloadN (X : Hr p l e R s m args below meth c Z own bs ml n0 rt T h cells slots) {i : Fin 4} {v : Value} (hd : decode bs pc = .ok (.aload_n i, 1)) (pc' : Nat) (hp : pc + 1 = pc') (hl : Ls[i.val]? = some (.val v)) (hv : v.isRef = true) (k : Wk p.tables e below G (T.setTop (mkF m pc' Ls (v :: st)))) : Wk p.tables e below G (T.setTop (mkF m pc Ls st)) := by
  subst hp
  exact Wk.pu X (fun hA hx hc t q => XS.aloadN hA hx rfl (hb hc hd) hl hv q) k
theorem Wk.istore (X : Hr p l e R s m args below meth c Z own bs ml n0 rt T h cells slots) {i : Nat} {v : Int32} (hd : decode bs pc = .ok (.istore i, 2)) (pc' : Nat) (hp : pc + 2 = pc') (Ls' : Array Slot) (hl : storeLocals Ls i (.int v) = some Ls') (k : Wk p.tables e below G (T.setTop (mkF m pc' Ls' st))) : Wk p.tables e below G (T.setTop (mkF m pc Ls (.int v :: st))) := by
  subst hp
  exact Wk.pu X (fun hA hx hc t q => XS.istore hA hx rfl (hb hc hd) rfl hl q) k
theorem Wk.istoreN (X : Hr p l e R s m args below meth c Z own bs ml n0 rt T h cells slots) {i : Fin 4} {v : Int32} (hd : decode bs pc = .ok (.istore_n i, 1)) (pc' : Nat) (hp : pc + 1 = pc') (Ls' : Array Slot) (hl : storeLocals Ls i.val (.int v) = some Ls') (k : Wk p.tables e below G (T.setTop (mkF m pc' Ls' st))) : Wk p.tables e below G (T.setTop (mkF m pc Ls (.int v :: st))) := by
  subst hp
  exact Wk.pu X (fun hA hx hc t q => XS.istoreN hA hx rfl (hb hc hd) rfl hl q) k
theorem Wk.lstore (X : Hr p l e R s m args below meth c Z own bs ml n0 rt T h cells slots) {i : Nat} {v : Int64} (hd : decode bs pc = .ok (.lstore i, 2)) (pc' : Nat) (hp : pc + 2 = pc') (Ls' : Array Slot) (hl : storeLocals Ls i (.long v) = some Ls') (k : Wk p.tables e below G (T.setTop (mkF m pc' Ls' st))) : Wk p.tables e below G (T.setTop (mkF m pc Ls (.long v :: st))) := by
  subst hp
  exact Wk.pu X (fun hA hx hc t q => XS.lstore hA hx rfl (hb hc hd) rfl hl q) k
theorem Wk.lstoreN (X : Hr p l e R s m args below meth c Z own bs ml n0 rt T h cells slots) {i : Fin 4} {v : Int64} (hd : decode bs pc = .ok (.lstore_n i, 1)) (pc' : Nat) (hp : pc + 1 = pc') (Ls' : Array Slot) (hl : storeLocals Ls i.val (.long v) = some Ls') (k : Wk p.tables e below G (T.setTop (mkF m pc' Ls' st))) : Wk p.tables e below G (T.setTop (mkF m pc Ls (.long v :: st))) := by
  subst hp
  exact Wk.pu X (fun hA hx hc t q => XS.lstoreN hA hx rfl (hb hc hd) rfl hl q) k
theorem Wk.astore (X : Hr p l e R s m args below meth c Z own bs ml n0 rt T h cells slots) {i : Nat} {v : Value} (hd : decode bs pc = .ok (.astore i, 2)) (pc' : Nat) (hp : pc + 2 = pc') (Ls' : Array Slot) (hv : v.isRef = true) (hl : storeLocals Ls i v = some Ls') (k : Wk p.tables e below G (T.setTop (mkF m pc' Ls' st))) : Wk p.tables e below G (T.setTop (mkF m pc Ls (v :: st))) := by
  subst hp
  exact Wk.pu X (fun hA hx hc t q => XS.astore hA hx rfl (hb hc hd) rfl hv hl q) k
theorem Wk.astoreN (X : Hr p l e R s m args below meth c Z own bs ml n0 rt T h cells slots) {i : Fin 4} {v : Value} (hd : decode bs pc = .ok (.astore_n i, 1)) (pc' : Nat) (hp : pc + 1 = pc') (Ls' : Array Slot) (hv : v.isRef = true) (hl : storeLocals Ls i.val v = some Ls') (k : Wk p.tables e below G (T.setTop (mkF m pc' Ls' st))) : Wk p.tables e below G (T.setTop (mkF m pc Ls (v :: st))) := by
  subst hp
  exact Wk.pu X (fun hA hx hc t q => XS.astoreN hA hx rfl (hb hc hd) rfl hv hl q) k
theorem Wk.iinc (X : Hr p l e R s m args below meth c Z own bs ml n0 rt T h cells slots) {i : Nat} {cst : Int} {v : Int32} (hd : decode bs pc = .ok (.iinc i cst, 3)) (pc' : Nat) (hp : pc + 3 = pc') (Ls' : Array Slot) (hl : Ls[i]? = some (.val (.int v))) (hl' : storeLocals Ls i (.int (v + Int32.ofInt cst)) = some Ls') (k : Wk p.tables e below G (T.setTop (mkF m pc' Ls' st))) : Wk p.tables e below G (T.setTop (mkF m pc Ls st)) := by
  subst hp
  exact Wk.pu X (fun hA hx hc t q => XS.iinc hA hx rfl (hb hc hd) hl hl' q) k
theorem Wk.iconst (X : Hr p l e R s m args below meth c Z own bs ml n0 rt T h cells slots) {i : Int} (hd : decode bs pc = .ok (.iconst i, 1)) (pc' : Nat) (hp : pc + 1 = pc') (z : Int32) (hz : Int32.ofInt i = z) (k : Wk p.tables e below G (T.setTop (mkF m pc' Ls (.int z :: st)))) : Wk p.tables e below G (T.setTop (mkF m pc Ls st)) := by
  subst hp hz
  exact Wk.pu X (fun hA hx hc t q => XS.iconst hA hx rfl (hb hc hd) q) k
theorem Wk.bipush (X : Hr p l e R s m args below meth c Z own bs ml n0 rt T h cells slots) {i : Int} (hd : decode bs pc = .ok (.bipush i, 2)) (pc' : Nat) (hp : pc + 2 = pc') (z : Int32) (hz : (Int8.ofInt i).toInt32 = z) (k : Wk p.tables e below G (T.setTop (mkF m pc' Ls (.int z :: st)))) : Wk p.tables e below G (T.setTop (mkF m pc Ls st)) := by
  subst hp hz
  exact Wk.pu X (fun hA hx hc t q => XS.bipush hA hx rfl (hb hc hd) q) k
theorem Wk.sipush (X : Hr p l e R s m args below meth c Z own bs ml n0 rt T h cells slots) {i : Int} (hd : decode bs pc = .ok (.sipush i, 3)) (pc' : Nat) (hp : pc + 3 = pc') (z : Int32) (hz : (Int16.ofInt i).toInt32 = z) (k : Wk p.tables e below G (T.setTop (mkF m pc' Ls (.int z :: st)))) : Wk p.tables e below G (T.setTop (mkF m pc Ls st)) := by
  subst hp hz
  exact Wk.pu X (fun hA hx hc t q => XS.sipush hA hx rfl (hb hc hd) q) k
theorem Wk.lconst (X : Hr p l e R s m args below meth c Z own bs ml n0 rt T h cells slots) {i : Fin 2} (hd : decode bs pc = .ok (.lconst i, 1)) (pc' : Nat) (hp : pc + 1 = pc') (z : Int64) (hz : Int64.ofNat i = z) (k : Wk p.tables e below G (T.setTop (mkF m pc' Ls (.long z :: st)))) : Wk p.tables e below G (T.setTop (mkF m pc Ls st)) := by
  subst hp hz
  exact Wk.pu X (fun hA hx hc t q => XS.lconst hA hx rfl (hb hc hd) q) k
theorem Wk.aconstNull (X : Hr p l e R s m args below meth c Z own bs ml n0 rt T h cells slots) (hd : decode bs pc = .ok (.aconst_null, 1)) (pc' : Nat) (hp : pc + 1 = pc') (k : Wk p.tables e below G (T.setTop (mkF m pc' Ls (.null :: st)))) : Wk p.tables e below G (T.setTop (mkF m pc Ls st)) := by
  subst hp
  exact Wk.pu X (fun hA hx hc t q => XS.aconstNull hA hx rfl (hb hc hd) q) k
theorem Wk.iadd (X : Hr p l e R s m args below meth c Z own bs ml n0 rt T h cells slots) {x y : Int32} (hd : decode bs pc = .ok (.iadd, 1)) (pc' : Nat) (hp : pc + 1 = pc') (k : Wk p.tables e below G (T.setTop (mkF m pc' Ls (.int (x + y) :: st)))) : Wk p.tables e below G (T.setTop (mkF m pc Ls (.int y :: .int x :: st))) := by
  subst hp
  exact Wk.pu X (fun hA hx hc t q => XS.iadd hA hx rfl (hb hc hd) rfl q) k
theorem Wk.isub (X : Hr p l e R s m args below meth c Z own bs ml n0 rt T h cells slots) {x y : Int32} (hd : decode bs pc = .ok (.isub, 1)) (pc' : Nat) (hp : pc + 1 = pc') (k : Wk p.tables e below G (T.setTop (mkF m pc' Ls (.int (x - y) :: st)))) : Wk p.tables e below G (T.setTop (mkF m pc Ls (.int y :: .int x :: st))) := by
  subst hp
  exact Wk.pu X (fun hA hx hc t q => XS.isub hA hx rfl (hb hc hd) rfl q) k
theorem Wk.imul (X : Hr p l e R s m args below meth c Z own bs ml n0 rt T h cells slots) {x y : Int32} (hd : decode bs pc = .ok (.imul, 1)) (pc' : Nat) (hp : pc + 1 = pc') (k : Wk p.tables e below G (T.setTop (mkF m pc' Ls (.int (x * y) :: st)))) : Wk p.tables e below G (T.setTop (mkF m pc Ls (.int y :: .int x :: st))) := by
  subst hp
  exact Wk.pu X (fun hA hx hc t q => XS.imul hA hx rfl (hb hc hd) rfl q) k
theorem Wk.iand (X : Hr p l e R s m args below meth c Z own bs ml n0 rt T h cells slots) {x y : Int32} (hd : decode bs pc = .ok (.iand, 1)) (pc' : Nat) (hp : pc + 1 = pc') (k : Wk p.tables e below G (T.setTop (mkF m pc' Ls (.int (x &&& y) :: st)))) : Wk p.tables e below G (T.setTop (mkF m pc Ls (.int y :: .int x :: st))) := by
  subst hp
  exact Wk.pu X (fun hA hx hc t q => XS.iand hA hx rfl (hb hc hd) rfl q) k
theorem Wk.ior (X : Hr p l e R s m args below meth c Z own bs ml n0 rt T h cells slots) {x y : Int32} (hd : decode bs pc = .ok (.ior, 1)) (pc' : Nat) (hp : pc + 1 = pc') (k : Wk p.tables e below G (T.setTop (mkF m pc' Ls (.int (x ||| y) :: st)))) : Wk p.tables e below G (T.setTop (mkF m pc Ls (.int y :: .int x :: st))) := by
  subst hp
  exact Wk.pu X (fun hA hx hc t q => XS.ior hA hx rfl (hb hc hd) rfl q) k
theorem Wk.ixor (X : Hr p l e R s m args below meth c Z own bs ml n0 rt T h cells slots) {x y : Int32} (hd : decode bs pc = .ok (.ixor, 1)) (pc' : Nat) (hp : pc + 1 = pc') (k : Wk p.tables e below G (T.setTop (mkF m pc' Ls (.int (x ^^^ y) :: st)))) : Wk p.tables e below G (T.setTop (mkF m pc Ls (.int y :: .int x :: st))) := by
  subst hp
  exact Wk.pu X (fun hA hx hc t q => XS.ixor hA hx rfl (hb hc hd) rfl q) k
theorem Wk.ishl (X : Hr p l e R s m args below meth c Z own bs ml n0 rt T h cells slots) {x y : Int32} (hd : decode bs pc = .ok (.ishl, 1)) (pc' : Nat) (hp : pc + 1 = pc') (k : Wk p.tables e below G (T.setTop (mkF m pc' Ls (.int (x <<< (y &&& 31)) :: st)))) : Wk p.tables e below G (T.setTop (mkF m pc Ls (.int y :: .int x :: st))) := by
  subst hp
  exact Wk.pu X (fun hA hx hc t q => XS.ishl hA hx rfl (hb hc hd) rfl q) k
theorem Wk.ishr (X : Hr p l e R s m args below meth c Z own bs ml n0 rt T h cells slots) {x y : Int32} (hd : decode bs pc = .ok (.ishr, 1)) (pc' : Nat) (hp : pc + 1 = pc') (k : Wk p.tables e below G (T.setTop (mkF m pc' Ls (.int (x >>> (y &&& 31)) :: st)))) : Wk p.tables e below G (T.setTop (mkF m pc Ls (.int y :: .int x :: st))) := by
  subst hp
  exact Wk.pu X (fun hA hx hc t q => XS.ishr hA hx rfl (hb hc hd) rfl q) k
theorem Wk.iushr (X : Hr p l e R s m args below meth c Z own bs ml n0 rt T h cells slots) {x y : Int32} (hd : decode bs pc = .ok (.iushr, 1)) (pc' : Nat) (hp : pc + 1 = pc') (k : Wk p.tables e below G (T.setTop (mkF m pc' Ls (.int ((x.toUInt32 >>> (y &&& 31).toUInt32).toInt32) :: st)))) : Wk p.tables e below G (T.setTop (mkF m pc Ls (.int y :: .int x :: st))) := by
  subst hp
  exact Wk.pu X (fun hA hx hc t q => XS.iushr hA hx rfl (hb hc hd) rfl q) k
theorem Wk.ladd (X : Hr p l e R s m args below meth c Z own bs ml n0 rt T h cells slots) {x y : Int64} (hd : decode bs pc = .ok (.ladd, 1)) (pc' : Nat) (hp : pc + 1 = pc') (k : Wk p.tables e below G (T.setTop (mkF m pc' Ls (.long (x + y) :: st)))) : Wk p.tables e below G (T.setTop (mkF m pc Ls (.long y :: .long x :: st))) := by
  subst hp
  exact Wk.pu X (fun hA hx hc t q => XS.ladd hA hx rfl (hb hc hd) rfl q) k
theorem Wk.lsub (X : Hr p l e R s m args below meth c Z own bs ml n0 rt T h cells slots) {x y : Int64} (hd : decode bs pc = .ok (.lsub, 1)) (pc' : Nat) (hp : pc + 1 = pc') (k : Wk p.tables e below G (T.setTop (mkF m pc' Ls (.long (x - y) :: st)))) : Wk p.tables e below G (T.setTop (mkF m pc Ls (.long y :: .long x :: st))) := by
  subst hp
  exact Wk.pu X (fun hA hx hc t q => XS.lsub hA hx rfl (hb hc hd) rfl q) k
theorem Wk.lmul (X : Hr p l e R s m args below meth c Z own bs ml n0 rt T h cells slots) {x y : Int64} (hd : decode bs pc = .ok (.lmul, 1)) (pc' : Nat) (hp : pc + 1 = pc') (k : Wk p.tables e below G (T.setTop (mkF m pc' Ls (.long (x * y) :: st)))) : Wk p.tables e below G (T.setTop (mkF m pc Ls (.long y :: .long x :: st))) := by
  subst hp
  exact Wk.pu X (fun hA hx hc t q => XS.lmul hA hx rfl (hb hc hd) rfl q) k
theorem Wk.land (X : Hr p l e R s m args below meth c Z own bs ml n0 rt T h cells slots) {x y : Int64} (hd : decode bs pc = .ok (.land, 1)) (pc' : Nat) (hp : pc + 1 = pc') (k : Wk p.tables e below G (T.setTop (mkF m pc' Ls (.long (x &&& y) :: st)))) : Wk p.tables e below G (T.setTop (mkF m pc Ls (.long y :: .long x :: st))) := by
  subst hp
  exact Wk.pu X (fun hA hx hc t q => XS.land hA hx rfl (hb hc hd) rfl q) k
theorem Wk.lor (X : Hr p l e R s m args below meth c Z own bs ml n0 rt T h cells slots) {x y : Int64} (hd : decode bs pc = .ok (.lor, 1)) (pc' : Nat) (hp : pc + 1 = pc') (k : Wk p.tables e below G (T.setTop (mkF m pc' Ls (.long (x ||| y) :: st)))) : Wk p.tables e below G (T.setTop (mkF m pc Ls (.long y :: .long x :: st))) := by
  subst hp
  exact Wk.pu X (fun hA hx hc t q => XS.lor hA hx rfl (hb hc hd) rfl q) k
theorem Wk.lxor (X : Hr p l e R s m args below meth c Z own bs ml n0 rt T h cells slots) {x y : Int64} (hd : decode bs pc = .ok (.lxor, 1)) (pc' : Nat) (hp : pc + 1 = pc') (k : Wk p.tables e below G (T.setTop (mkF m pc' Ls (.long (x ^^^ y) :: st)))) : Wk p.tables e below G (T.setTop (mkF m pc Ls (.long y :: .long x :: st))) := by
  subst hp
  exact Wk.pu X (fun hA hx hc t q => XS.lxor hA hx rfl (hb hc hd) rfl q) k
theorem Wk.lshl (X : Hr p l e R s m args below meth c Z own bs ml n0 rt T h cells slots) {x : Int64} {y : Int32} (hd : decode bs pc = .ok (.lshl, 1)) (pc' : Nat) (hp : pc + 1 = pc') (k : Wk p.tables e below G (T.setTop (mkF m pc' Ls (.long (x <<< (y &&& 0x3f).toInt64) :: st)))) : Wk p.tables e below G (T.setTop (mkF m pc Ls (.int y :: .long x :: st))) := by
  subst hp
  exact Wk.pu X (fun hA hx hc t q => XS.lshl hA hx rfl (hb hc hd) rfl q) k
theorem Wk.lshr (X : Hr p l e R s m args below meth c Z own bs ml n0 rt T h cells slots) {x : Int64} {y : Int32} (hd : decode bs pc = .ok (.lshr, 1)) (pc' : Nat) (hp : pc + 1 = pc') (k : Wk p.tables e below G (T.setTop (mkF m pc' Ls (.long (x >>> (y &&& 0x3f).toInt64) :: st)))) : Wk p.tables e below G (T.setTop (mkF m pc Ls (.int y :: .long x :: st))) := by
  subst hp
  exact Wk.pu X (fun hA hx hc t q => XS.lshr hA hx rfl (hb hc hd) rfl q) k
theorem Wk.lushr (X : Hr p l e R s m args below meth c Z own bs ml n0 rt T h cells slots) {x : Int64} {y : Int32} (hd : decode bs pc = .ok (.lushr, 1)) (pc' : Nat) (hp : pc + 1 = pc') (k : Wk p.tables e below G (T.setTop (mkF m pc' Ls (.long ((x.toUInt64 >>> (y &&& 0x3f).toInt64.toUInt64).toInt64) :: st)))) : Wk p.tables e below G (T.setTop (mkF m pc Ls (.int y :: .long x :: st))) := by
  subst hp
  exact Wk.pu X (fun hA hx hc t q => XS.lushr hA hx rfl (hb hc hd) rfl q) k
theorem Wk.ineg (X : Hr p l e R s m args below meth c Z own bs ml n0 rt T h cells slots) {x : Int32} (hd : decode bs pc = .ok (.ineg, 1)) (pc' : Nat) (hp : pc + 1 = pc') (k : Wk p.tables e below G (T.setTop (mkF m pc' Ls (.int (-x) :: st)))) : Wk p.tables e below G (T.setTop (mkF m pc Ls (.int x :: st))) := by
  subst hp
  exact Wk.pu X (fun hA hx hc t q => XS.ineg hA hx rfl (hb hc hd) rfl q) k
theorem Wk.i2b (X : Hr p l e R s m args below meth c Z own bs ml n0 rt T h cells slots) {x : Int32} (hd : decode bs pc = .ok (.i2b, 1)) (pc' : Nat) (hp : pc + 1 = pc') (k : Wk p.tables e below G (T.setTop (mkF m pc' Ls (.int (x.toInt8.toInt32) :: st)))) : Wk p.tables e below G (T.setTop (mkF m pc Ls (.int x :: st))) := by
  subst hp
  exact Wk.pu X (fun hA hx hc t q => XS.i2b hA hx rfl (hb hc hd) rfl q) k
theorem Wk.i2c (X : Hr p l e R s m args below meth c Z own bs ml n0 rt T h cells slots) {x : Int32} (hd : decode bs pc = .ok (.i2c, 1)) (pc' : Nat) (hp : pc + 1 = pc') (k : Wk p.tables e below G (T.setTop (mkF m pc' Ls (.int (x.toUInt32.toUInt16.toUInt32.toInt32) :: st)))) : Wk p.tables e below G (T.setTop (mkF m pc Ls (.int x :: st))) := by
  subst hp
  exact Wk.pu X (fun hA hx hc t q => XS.i2c hA hx rfl (hb hc hd) rfl q) k
theorem Wk.i2s (X : Hr p l e R s m args below meth c Z own bs ml n0 rt T h cells slots) {x : Int32} (hd : decode bs pc = .ok (.i2s, 1)) (pc' : Nat) (hp : pc + 1 = pc') (k : Wk p.tables e below G (T.setTop (mkF m pc' Ls (.int (x.toInt16.toInt32) :: st)))) : Wk p.tables e below G (T.setTop (mkF m pc Ls (.int x :: st))) := by
  subst hp
  exact Wk.pu X (fun hA hx hc t q => XS.i2s hA hx rfl (hb hc hd) rfl q) k
theorem Wk.i2l (X : Hr p l e R s m args below meth c Z own bs ml n0 rt T h cells slots) {x : Int32} (hd : decode bs pc = .ok (.i2l, 1)) (pc' : Nat) (hp : pc + 1 = pc') (k : Wk p.tables e below G (T.setTop (mkF m pc' Ls (.long (x.toInt64) :: st)))) : Wk p.tables e below G (T.setTop (mkF m pc Ls (.int x :: st))) := by
  subst hp
  exact Wk.pu X (fun hA hx hc t q => XS.i2l hA hx rfl (hb hc hd) rfl q) k
theorem Wk.l2i (X : Hr p l e R s m args below meth c Z own bs ml n0 rt T h cells slots) {x : Int64} (hd : decode bs pc = .ok (.l2i, 1)) (pc' : Nat) (hp : pc + 1 = pc') (k : Wk p.tables e below G (T.setTop (mkF m pc' Ls (.int (x.toInt32) :: st)))) : Wk p.tables e below G (T.setTop (mkF m pc Ls (.long x :: st))) := by
  subst hp
  exact Wk.pu X (fun hA hx hc t q => XS.l2i hA hx rfl (hb hc hd) rfl q) k
theorem Wk.lneg (X : Hr p l e R s m args below meth c Z own bs ml n0 rt T h cells slots) {x : Int64} (hd : decode bs pc = .ok (.lneg, 1)) (pc' : Nat) (hp : pc + 1 = pc') (k : Wk p.tables e below G (T.setTop (mkF m pc' Ls (.long (-x) :: st)))) : Wk p.tables e below G (T.setTop (mkF m pc Ls (.long x :: st))) := by
  subst hp
  exact Wk.pu X (fun hA hx hc t q => XS.lneg hA hx rfl (hb hc hd) rfl q) k
theorem Wk.lcmp (X : Hr p l e R s m args below meth c Z own bs ml n0 rt T h cells slots) {x y : Int64} (hd : decode bs pc = .ok (.lcmp, 1)) (pc' : Nat) (hp : pc + 1 = pc') (k : Wk p.tables e below G (T.setTop (mkF m pc' Ls (.int (if x > y then 1 else if x = y then 0 else -1) :: st)))) : Wk p.tables e below G (T.setTop (mkF m pc Ls (.long y :: .long x :: st))) := by
  subst hp
  exact Wk.pu X (fun hA hx hc t q => XS.lcmp hA hx rfl (hb hc hd) rfl q) k
theorem Wk.dup (X : Hr p l e R s m args below meth c Z own bs ml n0 rt T h cells slots) {v : Value} (hd : decode bs pc = .ok (.dup, 1)) (pc' : Nat) (hp : pc + 1 = pc') (hv : v.category = 1) (k : Wk p.tables e below G (T.setTop (mkF m pc' Ls (v :: v :: st)))) : Wk p.tables e below G (T.setTop (mkF m pc Ls (v :: st))) := by
  subst hp
  exact Wk.pu X (fun hA hx hc t q => XS.dup hA hx rfl (hb hc hd) rfl hv q) k
theorem Wk.dupX1 (X : Hr p l e R s m args below meth c Z own bs ml n0 rt T h cells slots) {v w : Value} (hd : decode bs pc = .ok (.dup_x1, 1)) (pc' : Nat) (hp : pc + 1 = pc') (hv : v.category = 1) (hw : w.category = 1) (k : Wk p.tables e below G (T.setTop (mkF m pc' Ls (v :: w :: v :: st)))) : Wk p.tables e below G (T.setTop (mkF m pc Ls (v :: w :: st))) := by
  subst hp
  exact Wk.pu X (fun hA hx hc t q => XS.dupX1 hA hx rfl (hb hc hd) rfl hv hw q) k
theorem Wk.pop (X : Hr p l e R s m args below meth c Z own bs ml n0 rt T h cells slots) {v : Value} (hd : decode bs pc = .ok (.pop, 1)) (pc' : Nat) (hp : pc + 1 = pc') (hv : v.category = 1) (k : Wk p.tables e below G (T.setTop (mkF m pc' Ls st))) : Wk p.tables e below G (T.setTop (mkF m pc Ls (v :: st))) := by
  subst hp
  exact Wk.pu X (fun hA hx hc t q => XS.pop hA hx rfl (hb hc hd) rfl hv q) k
theorem Wk.irem (X : Hr p l e R s m args below meth c Z own bs ml n0 rt T h cells slots) {x y : Int32} (hd : decode bs pc = .ok (.irem, 1)) (pc' : Nat) (hp : pc + 1 = pc') (hy : y ≠ 0) (k : Wk p.tables e below G (T.setTop (mkF m pc' Ls (.int (x % y) :: st)))) : Wk p.tables e below G (T.setTop (mkF m pc Ls (.int y :: .int x :: st))) := by
  subst hp
  obtain ⟨⟨locs, Y, N⟩, hx, hc, -⟩ := X
  exact Wk.go (fun t q => iremM (g := mkF m pc Ls (.int y :: .int x :: st)) Y hx rfl (hb hc hd) rfl hy q) k
theorem Wk.idiv (X : Hr p l e R s m args below meth c Z own bs ml n0 rt T h cells slots) {x y : Int32} (hd : decode bs pc = .ok (.idiv, 1)) (pc' : Nat) (hp : pc + 1 = pc') (hy : y ≠ 0) (k : Wk p.tables e below G (T.setTop (mkF m pc' Ls (.int (x / y) :: st)))) : Wk p.tables e below G (T.setTop (mkF m pc Ls (.int y :: .int x :: st))) := by
  subst hp
  exact Wk.pu X (fun hA hx hc t q => XS.idiv hA hx rfl (hb hc hd) rfl hy q) k
theorem Wk.goto (X : Hr p l e R s m args below meth c Z own bs ml n0 rt T h cells slots) {o : Int} (hd : decode bs pc = .ok (.goto o, 3)) (pc' : Nat) (hp : 0 ≤ (pc : Int) + o ∧ ((pc : Int) + o).toNat = pc') (k : Wk p.tables e below G (T.setTop (mkF m pc' Ls st))) : Wk p.tables e below G (T.setTop (mkF m pc Ls st)) :=
  Wk.pu X (fun hA hx hc t q => XS.goto hA hx rfl (pc0 := pc) (pc' := pc') rfl (hb hc hd) hp.1 hp.2 q) k
theorem Wk.icmpT (X : Hr p l e R s m args below meth c Z own bs ml n0 rt T h cells slots) {cd : ClassFile.Cond} {o : Int} {x y : Int32} (hd : decode bs pc = .ok (.if_icmp cd o, 3)) (pt : Nat) (ht : 0 ≤ (pc : Int) + o ∧ ((pc : Int) + o).toNat = pt) (q : cmpT cd x y) (k : Wk p.tables e below G (T.setTop (mkF m pt Ls st))) : Wk p.tables e below G (T.setTop (mkF m pc Ls (.int y :: .int x :: st))) :=
  Wk.pu X (fun hA hx hc t z => XS.icmpYes hA hx rfl (pc0 := pc) (pc' := pt) rfl (hb hc hd) rfl (cmp_t q) ht.1 ht.2 z) k
theorem Wk.icmpF (X : Hr p l e R s m args below meth c Z own bs ml n0 rt T h cells slots) {cd : ClassFile.Cond} {o : Int} {x y : Int32} (hd : decode bs pc = .ok (.if_icmp cd o, 3)) (pf : Nat) (hf : pc + 3 = pf) (q : cmpF cd x y) (k : Wk p.tables e below G (T.setTop (mkF m pf Ls st))) : Wk p.tables e below G (T.setTop (mkF m pc Ls (.int y :: .int x :: st))) := by
  subst hf
  exact Wk.pu X (fun hA hx hc t z => XS.icmpNo hA hx rfl (hb hc hd) rfl (cmp_f q) z) k
theorem Wk.icmp (X : Hr p l e R s m args below meth c Z own bs ml n0 rt T h cells slots) {cd : ClassFile.Cond} {o : Int} {x y : Int32} (hd : decode bs pc = .ok (.if_icmp cd o, 3)) (pt pf : Nat) (ht : 0 ≤ (pc : Int) + o ∧ ((pc : Int) + o).toNat = pt) (hf : pc + 3 = pf) (kt : cmpT cd x y → Wk p.tables e below G (T.setTop (mkF m pt Ls st))) (kf : cmpF cd x y → Wk p.tables e below G (T.setTop (mkF m pf Ls st))) : Wk p.tables e below G (T.setTop (mkF m pc Ls (.int y :: .int x :: st))) :=
  (cmp_or cd x y).elim (fun q => Wk.icmpT X hd pt ht q (kt q)) (fun q => Wk.icmpF X hd pf hf q (kf q))
theorem Wk.ifcT (X : Hr p l e R s m args below meth c Z own bs ml n0 rt T h cells slots) {cd : ClassFile.Cond} {o : Int} {x : Int32} (hd : decode bs pc = .ok (.ifCond cd o, 3)) (pt : Nat) (ht : 0 ≤ (pc : Int) + o ∧ ((pc : Int) + o).toNat = pt) (q : cmpT cd x 0) (k : Wk p.tables e below G (T.setTop (mkF m pt Ls st))) : Wk p.tables e below G (T.setTop (mkF m pc Ls (.int x :: st))) :=
  Wk.pu X (fun hA hx hc t z => XS.ifYes hA hx rfl (pc0 := pc) (pc' := pt) rfl (hb hc hd) rfl ((if0 _ _).trans (cmp_t q)) ht.1 ht.2 z) k
theorem Wk.ifcF (X : Hr p l e R s m args below meth c Z own bs ml n0 rt T h cells slots) {cd : ClassFile.Cond} {o : Int} {x : Int32} (hd : decode bs pc = .ok (.ifCond cd o, 3)) (pf : Nat) (hf : pc + 3 = pf) (q : cmpF cd x 0) (k : Wk p.tables e below G (T.setTop (mkF m pf Ls st))) : Wk p.tables e below G (T.setTop (mkF m pc Ls (.int x :: st))) := by
  subst hf
  exact Wk.pu X (fun hA hx hc t z => XS.ifNo hA hx rfl (hb hc hd) rfl ((if0 _ _).trans (cmp_f q)) z) k
theorem Wk.ifc (X : Hr p l e R s m args below meth c Z own bs ml n0 rt T h cells slots) {cd : ClassFile.Cond} {o : Int} {x : Int32} (hd : decode bs pc = .ok (.ifCond cd o, 3)) (pt pf : Nat) (ht : 0 ≤ (pc : Int) + o ∧ ((pc : Int) + o).toNat = pt) (hf : pc + 3 = pf) (kt : cmpT cd x 0 → Wk p.tables e below G (T.setTop (mkF m pt Ls st))) (kf : cmpF cd x 0 → Wk p.tables e below G (T.setTop (mkF m pf Ls st))) : Wk p.tables e below G (T.setTop (mkF m pc Ls (.int x :: st))) :=
  (cmp_or cd x 0).elim (fun q => Wk.ifcT X hd pt ht q (kt q)) (fun q => Wk.ifcF X hd pf hf q (kf q))
theorem Wk.ifnullT (X : Hr p l e R s m args below meth c Z own bs ml n0 rt T h cells slots) {o : Int} (hd : decode bs pc = .ok (.ifnull o, 3)) (pt : Nat) (ht : 0 ≤ (pc : Int) + o ∧ ((pc : Int) + o).toNat = pt) (k : Wk p.tables e below G (T.setTop (mkF m pt Ls st))) : Wk p.tables e below G (T.setTop (mkF m pc Ls (.null :: st))) :=
  Wk.pu X (fun hA hx hc t z => XS.ifnullYes hA hx rfl (pc0 := pc) (pc' := pt) rfl (hb hc hd) rfl ht.1 ht.2 z) k
theorem Wk.ifnullF (X : Hr p l e R s m args below meth c Z own bs ml n0 rt T h cells slots) {o : Int} {b : Addr} (hd : decode bs pc = .ok (.ifnull o, 3)) (pf : Nat) (hf : pc + 3 = pf) (k : Wk p.tables e below G (T.setTop (mkF m pf Ls st))) : Wk p.tables e below G (T.setTop (mkF m pc Ls (.ref b :: st))) := by
  subst hf
  exact Wk.pu X (fun hA hx hc t z => XS.ifnullNo hA hx rfl (hb hc hd) rfl z) k
theorem Wk.ifnonnullT (X : Hr p l e R s m args below meth c Z own bs ml n0 rt T h cells slots) {o : Int} {b : Addr} (hd : decode bs pc = .ok (.ifnonnull o, 3)) (pt : Nat) (ht : 0 ≤ (pc : Int) + o ∧ ((pc : Int) + o).toNat = pt) (k : Wk p.tables e below G (T.setTop (mkF m pt Ls st))) : Wk p.tables e below G (T.setTop (mkF m pc Ls (.ref b :: st))) :=
  Wk.pu X (fun hA hx hc t z => XS.ifnonnullYes hA hx rfl (pc0 := pc) (pc' := pt) rfl (hb hc hd) rfl ht.1 ht.2 z) k
theorem Wk.ifnonnullF (X : Hr p l e R s m args below meth c Z own bs ml n0 rt T h cells slots) {o : Int} (hd : decode bs pc = .ok (.ifnonnull o, 3)) (pf : Nat) (hf : pc + 3 = pf) (k : Wk p.tables e below G (T.setTop (mkF m pf Ls st))) : Wk p.tables e below G (T.setTop (mkF m pc Ls (.null :: st))) := by
  subst hf
  exact Wk.pu X (fun hA hx hc t z => XS.ifnonnullNo hA hx rfl (hb hc hd) rfl z) k
theorem Wk.acmpT (X : Hr p l e R s m args below meth c Z own bs ml n0 rt T h cells slots) {cd : ClassFile.ACond} {o : Int} {a b : Addr} (hd : decode bs pc = .ok (.if_acmp cd o, 3)) (pt : Nat) (ht : 0 ≤ (pc : Int) + o ∧ ((pc : Int) + o).toNat = pt) (q : if_acmp.holds cd (some a) (some b) = true) (k : Wk p.tables e below G (T.setTop (mkF m pt Ls st))) : Wk p.tables e below G (T.setTop (mkF m pc Ls (.ref b :: .ref a :: st))) :=
  Wk.pu X (fun hA hx hc t z => XS.acmpYes hA hx rfl (pc0 := pc) (pc' := pt) rfl (hb hc hd) rfl q ht.1 ht.2 z) k
theorem Wk.acmpF (X : Hr p l e R s m args below meth c Z own bs ml n0 rt T h cells slots) {cd : ClassFile.ACond} {o : Int} {a b : Addr} (hd : decode bs pc = .ok (.if_acmp cd o, 3)) (pf : Nat) (hf : pc + 3 = pf) (q : if_acmp.holds cd (some a) (some b) = false) (k : Wk p.tables e below G (T.setTop (mkF m pf Ls st))) : Wk p.tables e below G (T.setTop (mkF m pc Ls (.ref b :: .ref a :: st))) := by
  subst hf
  exact Wk.pu X (fun hA hx hc t z => XS.acmpNo hA hx rfl (hb hc hd) rfl q z) k
theorem Wk.ldcInt (X : Hr p l e R s m args below meth c Z own bs ml n0 rt T h cells slots) {i : Nat} {v : Int32} (w : (Cond.constant own i v).before a0 Z = true) (hd : decode bs pc = .ok (.ldc i, 2)) (pc' : Nat) (hp : pc + 2 = pc') (k : Wk p.tables e below G (T.setTop (mkF m pc' Ls (.int v :: st)))) : Wk p.tables e below G (T.setTop (mkF m pc Ls st)) := by
  subst hp
  obtain ⟨⟨locs, Y, N⟩, hx, hc, -, hZ, ho, -⟩ := X
  exact Wk.go (fun t q => Y.ldcInt hx ho (mvT hZ w) (g := mkF m pc Ls st) rfl (hb hc hd) t q) k
theorem Wk.ldc2Long (X : Hr p l e R s m args below meth c Z own bs ml n0 rt T h cells slots) {i : Nat} {v : Int64} (w : (Cond.constantLong own i v).before a0 Z = true) (hd : decode bs pc = .ok (.ldc2_w i, 3)) (pc' : Nat) (hp : pc + 3 = pc') (k : Wk p.tables e below G (T.setTop (mkF m pc' Ls (.long v :: st)))) : Wk p.tables e below G (T.setTop (mkF m pc Ls st)) := by
  subst hp
  obtain ⟨⟨locs, Y, N⟩, hx, hc, -, hZ, ho, -⟩ := X
  exact Wk.go (fun t q => Y.ldc2Long hx ho (mvT hZ w) (g := mkF m pc Ls st) rfl (hb hc hd) t q) k
theorem Arl.at {a : Addr} {ty : FieldType} {us : List Value} {j : Int32} {i : Nat} {v : Value} (A : Arl Z h a ty us) (hj : j.toInt = i) (hv : us[i]? = some v) : ∃ cl : Cell, Arr Z h a cl ty ∧ ¬ (j < 0 ∨ cl.slots.size ≤ j.toNatClampNeg) ∧ cl.slots[j.toNatClampNeg]? = some v := by
  obtain ⟨cl, A, r1, r2⟩ := A
  have hi : i < us.length := (List.getElem?_eq_some_iff.mp hv).1
  have q := ix_in (n := cl.slots.size) hj (by rw [r1]; simpa using hi)
  exact ⟨cl, A, q.1, by rw [q.2, r1]; simpa using hv⟩
theorem Wk.iaload (X : Hr p l e R s m args below meth c Z own bs ml n0 rt T h cells slots) {a : Addr} {us : List Value} {j : Int32} {v : Value} (A : Arl Z h a .int us) (i : Nat) (hj : j.toInt = i) (hv : us[i]? = some v) (hd : decode bs pc = .ok (.iaload, 1)) (pc' : Nat) (hp : pc + 1 = pc') (k : Wk p.tables e below G (T.setTop (mkF m pc' Ls (v :: st)))) : Wk p.tables e below G (T.setTop (mkF m pc Ls (.int j :: .ref a :: st))) := by
  subst hp
  obtain ⟨⟨locs, Y, N⟩, hx, hc, -, hZ, ho, -, -, eT⟩ := X
  obtain ⟨cl, A, q1, q2⟩ := A.at hj hv
  exact Wk.go (fun t q => Y.iaload hx (by rw [eT]; exact A.1) (State.isArrayOf_alike hZ.alike A.2.1) A.2.2 q1 q2 (g := mkF m pc Ls (.int j :: .ref a :: st)) rfl rfl (hb hc hd) t q) k
theorem Wk.laload (X : Hr p l e R s m args below meth c Z own bs ml n0 rt T h cells slots) {a : Addr} {us : List Value} {j : Int32} {v : Value} (A : Arl Z h a .long us) (i : Nat) (hj : j.toInt = i) (hv : us[i]? = some v) (hd : decode bs pc = .ok (.laload, 1)) (pc' : Nat) (hp : pc + 1 = pc') (k : Wk p.tables e below G (T.setTop (mkF m pc' Ls (v :: st)))) : Wk p.tables e below G (T.setTop (mkF m pc Ls (.int j :: .ref a :: st))) := by
  subst hp
  obtain ⟨⟨locs, Y, N⟩, hx, hc, -, hZ, ho, -, -, eT⟩ := X
  obtain ⟨cl, A, q1, q2⟩ := A.at hj hv
  exact Wk.go (fun t q => Y.laload hx (by rw [eT]; exact A.1) (State.isArrayOf_alike hZ.alike A.2.1) A.2.2 q1 q2 (g := mkF m pc Ls (.int j :: .ref a :: st)) rfl rfl (hb hc hd) t q) k
theorem Wk.baload (X : Hr p l e R s m args below meth c Z own bs ml n0 rt T h cells slots) {a : Addr} {us : List Value} {j : Int32} {v : Value} (A : Arl Z h a .byte us) (i : Nat) (hj : j.toInt = i) (hv : us[i]? = some v) (hd : decode bs pc = .ok (.baload, 1)) (pc' : Nat) (hp : pc + 1 = pc') (k : Wk p.tables e below G (T.setTop (mkF m pc' Ls (v :: st)))) : Wk p.tables e below G (T.setTop (mkF m pc Ls (.int j :: .ref a :: st))) := by
  subst hp
  obtain ⟨⟨locs, Y, N⟩, hx, hc, -, hZ, ho, -, -, eT⟩ := X
  obtain ⟨cl, A, q1, q2⟩ := A.at hj hv
  exact Wk.go (fun t q => Y.baloadBytes hx (by rw [eT]; exact A.1) (State.isArrayOf_alike hZ.alike A.2.1) A.2.2 q1 q2 (g := mkF m pc Ls (.int j :: .ref a :: st)) rfl rfl (hb hc hd) t q) k
theorem Wk.arraylength (X : Hr p l e R s m args below meth c Z own bs ml n0 rt T h cells slots) {a : Addr} {ty : FieldType} {us : List Value} (A : Arl Z h a ty us) (hd : decode bs pc = .ok (.arraylength, 1)) (pc' : Nat) (hp : pc + 1 = pc') (z : Int32) (hz : us.length.toInt32 = z) (k : Wk p.tables e below G (T.setTop (mkF m pc' Ls (.int z :: st)))) : Wk p.tables e below G (T.setTop (mkF m pc Ls (.ref a :: st))) := by
  subst hp hz
  obtain ⟨⟨locs, Y, N⟩, hx, hc, -, hZ, ho, -, -, eT⟩ := X
  obtain ⟨cl, A, r1, r2⟩ := A
  have hs : cl.slots.size = us.length := by rw [r1]; simp
  rw [← hs] at k
  exact Wk.go (fun t q => Y.arraylength hx (by rw [eT]; exact A.1) (State.isArrayOf_alike hZ.alike A.2.1) (g := mkF m pc Ls (.ref a :: st)) rfl rfl (hb hc hd) t q) k
theorem Wk.getfield (X : Hr p l e R s m args below meth c Z own bs ml n0 rt T h cells slots) {i : Nat} {R0 O n d : String} {a : Addr} {v : Value} (w : (Cond.fieldLink own i R0 n d).before a0 Z = true) (via : Via Z R0 O n d) (F : Fld Z h a O n d v) (hd : decode bs pc = .ok (.getfield i, 3)) (pc' : Nat) (hp : pc + 3 = pc')
    (k : ∀ T', Hr p l e R s m args below meth c Z own bs ml n0 rt T' h cells slots → Wk p.tables e below G (T'.setTop (mkF m pc' Ls (v :: st)))) : Wk p.tables e below G (T.setTop (mkF m pc Ls (.ref a :: st))) := by
  subst hp
  obtain ⟨⟨locs, Y, N⟩, hx, hc, hm, hZ, ho, hr, hl, eT⟩ := X
  obtain ⟨T', Y', e', q⟩ := getF Y hx hZ ho (host := "") (Or.inl w) via eT F (g := mkF m pc Ls (.ref a :: st)) rfl rfl (hb hc hd)
  exact Wk.go q (k T' ⟨⟨locs, Y', N⟩, hx, hc, hm, hZ, ho, hr, hl, e'⟩)
theorem Wk.putfield (X : Hr p l e R s m args below meth c Z own bs ml n0 rt T h cells slots) {i kk : Nat} {R0 O n d C : String} {ty : FieldType} {a : Addr} {v old : Value} (w : (Cond.fieldLink own i R0 n d).before a0 Z = true) (via : Via Z R0 O n d) (F : Fld Z h a O n d old) (E : Exa Z h a C) (L : (Cond.lays C O n d).before a0 Z = true ∨ ((Cond.laysFinal C O n d).before a0 Z = true ∧ own = O ∧ meth.name = "<init>")) (wi : (Cond.instantiable C kk).before a0 Z = true)
    (hty : parseFieldDescriptor d = some ty) (hn : narrow ty v = v) (hf : fits ty v = true) (hnew : n0 ≤ a) (hd : decode bs pc = .ok (.putfield i, 3)) (pc' : Nat) (hp : pc + 3 = pc')
    (k : ∀ T' h', Hr p l e R s m args below meth c Z own bs ml n0 rt T' h' cells slots → Wr h h' a (Jvm.RoadKit.slotOf Z O n d) v → Wk p.tables e below G (T'.setTop (mkF m pc' Ls st))) : Wk p.tables e below G (T.setTop (mkF m pc Ls (v :: .ref a :: st))) := by
  subst hp
  obtain ⟨⟨locs, Y, N⟩, hx, hc, hm, hZ, ho, hr, hl, eT⟩ := X
  obtain ⟨T', h', Y', e', W, q⟩ := putF Y hx hZ ho (host := "") (Or.inl w) via eT F E L wi hty hn hf (g := mkF m pc Ls (v :: .ref a :: st)) rfl rfl (hb hc hd)
  exact Wk.go q (k T' h' ⟨⟨_, Y', Fr.snoc Y' N hnew⟩, hx, hc, hm, hZ, ho, hr, hl, e'⟩ W)
theorem Wk.getstatic (X : Hr p l e R s m args below meth c Z own bs ml n0 rt T h cells slots) {i : Nat} {R0 O n d : String} {v : Value} (w : (Cond.fieldLink own i R0 n d).before a0 Z = true) (via : Via Z R0 O n d) (F : Sta Z h O n d v) (hd : decode bs pc = .ok (.getstatic i, 3)) (pc' : Nat) (hp : pc + 3 = pc')
    (k : ∀ T', Hr p l e R s m args below meth c Z own bs ml n0 rt T' h cells slots → Wk p.tables e below G (T'.setTop (mkF m pc' Ls (v :: st)))) : Wk p.tables e below G (T.setTop (mkF m pc Ls st)) := by
  subst hp
  obtain ⟨⟨locs, Y, N⟩, hx, hc, hm, hZ, ho, hr, hl, eT⟩ := X
  obtain ⟨T', Y', e', q⟩ := getS Y hx hZ (host := "") ho w via eT F (g := mkF m pc Ls st) rfl (hb hc hd)
  exact Wk.go q (k T' ⟨⟨locs, Y', N⟩, hx, hc, hm, hZ, ho, hr, hl, e'⟩)
theorem Wk.new (X : Hr p l e R s m args below meth c Z own bs ml n0 rt T h cells slots) {i n : Nat} {C : String} (w : (Cond.classLink own i C).before a0 Z = true) (wi : (Cond.instantiable C n).before a0 Z = true) (wz : (Cond.initialized C).before a0 Z = true) (hd : decode bs pc = .ok (.new i, 3)) (pc' : Nat) (hp : pc + 3 = pc') (hce : cells + 1 ≤ R.cells) (hsl : slots + n ≤ R.slots)
    (k : ∀ T' h' a, a = h.size → Hr p l e R s m args below meth c Z own bs ml n0 rt T' h' (cells + 1) (slots + n) → Ext h h' → Exa Z h' a C → (∀ {O nm d : String} {ty : FieldType}, Laid Z a0 C O nm d → parseFieldDescriptor d = some ty → Fld Z h' a O nm d (defaultValue ty)) → Wk p.tables e below G (T'.setTop (mkF m pc' Ls (.ref a :: st)))) : Wk p.tables e below G (T.setTop (mkF m pc Ls st)) := by
  subst hp
  obtain ⟨⟨locs, Y, N⟩, hx, hc, hm, hZ, ho, hr, hl, eT⟩ := X
  obtain ⟨T', h', Y', e', E, A, D, -, q⟩ := newO Y hx hZ ho w wi wz eT (g := mkF m pc Ls st) rfl (hb hc hd) hce hsl
  exact Wk.go q (k T' h' _ rfl ⟨⟨_, Y', N⟩, hx, hc, hm, hZ, ho, hr, hl, e'⟩ E A D)
theorem Wk.newarray (X : Hr p l e R s m args below meth c Z own bs ml n0 rt T h cells slots) {aty : ArrayType} {n : Int32} (w : (Cond.arrayClass (newarray.typeOf aty)).before a0 Z = true) (hd : decode bs pc = .ok (.newarray aty, 2)) (pc' : Nat) (hp : pc + 2 = pc') (i : Nat) (hn : n.toInt = i) (cap : Nat) (hcap : i ≤ cap) (hbig : cap * 8 ≤ 536870912) (hce : cells + 1 ≤ R.cells) (hsl : slots + cap ≤ R.slots)
    (k : ∀ T' h' a, a = h.size → Hr p l e R s m args below meth c Z own bs ml n0 rt T' h' (cells + 1) (slots + cap) → Ext h h' → Arl Z h' a (newarray.typeOf aty) (List.replicate i (defaultValue (newarray.typeOf aty))) → Wk p.tables e below G (T'.setTop (mkF m pc' Ls (.ref a :: st)))) : Wk p.tables e below G (T.setTop (mkF m pc Ls (.int n :: st))) := by
  subst hp
  obtain ⟨⟨locs, Y, N⟩, hx, hc, hm, hZ, ho, hr, hl, eT⟩ := X
  have hi : n.toNatClampNeg = i := by simp [Int32.toNatClampNeg, hn]
  have h0 : ¬ n < 0 := by rw [Int32.lt_iff_toInt_lt, hn]; simp only [Int32.reduceToInt]; omega
  obtain ⟨T', h', cA, Y', e', E, A, q⟩ := newP Y hx hZ w eT (g := mkF m pc Ls (.int n :: st)) rfl (hb hc hd) rfl h0 (cap := cap) (by rw [hi]; exact hcap) hbig hce hsl
  refine Wk.go q (k T' h' _ rfl ⟨⟨_, Y', N⟩, hx, hc, hm, hZ, ho, hr, hl, e'⟩ E ⟨_, A, ?_, by simp; omega⟩)
  simp [newA, hi]
theorem Wk.iastore (X : Hr p l e R s m args below meth c Z own bs ml n0 rt T h cells slots) {a : Addr} {us : List Value} {j v : Int32} (A : Arl Z h a .int us) (hnew : n0 ≤ a) (i : Nat) (hj : j.toInt = i) (hi : i < us.length) (hd : decode bs pc = .ok (.iastore, 1)) (pc' : Nat) (hp : pc + 1 = pc')
    (k : ∀ T' h', Hr p l e R s m args below meth c Z own bs ml n0 rt T' h' cells slots → Wr h h' a i (.int v) → Wk p.tables e below G (T'.setTop (mkF m pc' Ls st))) : Wk p.tables e below G (T.setTop (mkF m pc Ls (.int v :: .int j :: .ref a :: st))) := by
  subst hp
  obtain ⟨⟨locs, Y, N⟩, hx, hc, hm, hZ, ho, hr, hl, eT⟩ := X
  obtain ⟨cl, A, q1, -⟩ := A.at hj (List.getElem?_eq_getElem hi)
  obtain ⟨T', h', Y', e', W, q⟩ := stI Y hx hZ eT A q1 (g := mkF m pc Ls (.int v :: .int j :: .ref a :: st)) rfl rfl (hb hc hd)
  rw [(ix_in hj hi).2] at W
  exact Wk.go q (k T' h' ⟨⟨_, Y', Fr.snoc Y' N hnew⟩, hx, hc, hm, hZ, ho, hr, hl, e'⟩ W)
theorem Wk.lastore (X : Hr p l e R s m args below meth c Z own bs ml n0 rt T h cells slots) {a : Addr} {us : List Value} {j : Int32} {v : Int64} (A : Arl Z h a .long us) (hnew : n0 ≤ a) (i : Nat) (hj : j.toInt = i) (hi : i < us.length) (hd : decode bs pc = .ok (.lastore, 1)) (pc' : Nat) (hp : pc + 1 = pc')
    (k : ∀ T' h', Hr p l e R s m args below meth c Z own bs ml n0 rt T' h' cells slots → Wr h h' a i (.long v) → Wk p.tables e below G (T'.setTop (mkF m pc' Ls st))) : Wk p.tables e below G (T.setTop (mkF m pc Ls (.long v :: .int j :: .ref a :: st))) := by
  subst hp
  obtain ⟨⟨locs, Y, N⟩, hx, hc, hm, hZ, ho, hr, hl, eT⟩ := X
  obtain ⟨cl, A, q1, -⟩ := A.at hj (List.getElem?_eq_getElem hi)
  obtain ⟨T', h', Y', e', W, q⟩ := stJ Y hx hZ eT A q1 (g := mkF m pc Ls (.long v :: .int j :: .ref a :: st)) rfl rfl (hb hc hd)
  rw [(ix_in hj hi).2] at W
  exact Wk.go q (k T' h' ⟨⟨_, Y', Fr.snoc Y' N hnew⟩, hx, hc, hm, hZ, ho, hr, hl, e'⟩ W)
theorem Wk.bastore (X : Hr p l e R s m args below meth c Z own bs ml n0 rt T h cells slots) {a : Addr} {us : List Value} {j v : Int32} (A : Arl Z h a .byte us) (hnew : n0 ≤ a) (i : Nat) (hj : j.toInt = i) (hi : i < us.length) (hd : decode bs pc = .ok (.bastore, 1)) (pc' : Nat) (hp : pc + 1 = pc')
    (k : ∀ T' h', Hr p l e R s m args below meth c Z own bs ml n0 rt T' h' cells slots → Wr h h' a i (.int v.toInt8.toInt32) → Wk p.tables e below G (T'.setTop (mkF m pc' Ls st))) : Wk p.tables e below G (T.setTop (mkF m pc Ls (.int v :: .int j :: .ref a :: st))) := by
  subst hp
  obtain ⟨⟨locs, Y, N⟩, hx, hc, hm, hZ, ho, hr, hl, eT⟩ := X
  obtain ⟨cl, A, q1, -⟩ := A.at hj (List.getElem?_eq_getElem hi)
  obtain ⟨T', h', Y', e', W, q⟩ := stB Y hx hZ eT A q1 (g := mkF m pc Ls (.int v :: .int j :: .ref a :: st)) rfl rfl (hb hc hd)
  rw [(ix_in hj hi).2] at W
  exact Wk.go q (k T' h' ⟨⟨_, Y', Fr.snoc Y' N hnew⟩, hx, hc, hm, hZ, ho, hr, hl, e'⟩ W)
theorem Wk.callS (X : Hr p l e R s m args below meth c Z own bs ml n0 rt T h cells slots) {i : Nat} {y : MethodName} {bytes : ByteArray} {maxL : Nat} {rt' : Option FieldType} {rm : Room} {as' : Array Value} {Q : Option Value → Heap → Prop} (w1 : (Cond.methodLink own i y).before a0 Z = true) (w2 : (Cond.static y).before a0 Z = true) (w3 : (Cond.initialized y.cls).before a0 Z = true) (w4 : (Cond.code y bytes maxL rt').before a0 Z = true) (hM : Con l y bytes maxL rt' rm [] Z as' h n0 Q)
    (hy : y.cls ≠ "java/lang/invoke/MethodHandle" ∧ y.cls ≠ "java/lang/invoke/VarHandle") {ps : List FieldType} {r : Option FieldType} (hds : parseMethodDescriptor y.desc = some ⟨ps, r⟩) (argsL rest : List Value) (hlen : argsL.length = ps.length) (hst : st = argsL.reverse ++ rest) (has : argsL.toArray = as') (hls : Ls.size = ml) (W : Nat) (hW : (rest.map fun v => v.category).sum ≤ W) (hfr : rm.frames + 1 ≤ R.frames) (hlo : W + (maxL + 11) + rm.locals ≤ R.locals) (hce : cells + rm.cells ≤ R.cells) (hsl : slots + rm.slots ≤ R.slots) (cells' slots' : Nat) (hc' : cells + rm.cells = cells') (hs' : slots + rm.slots = slots')
    (hd : decode bs pc = .ok (.invokestatic i, 3)) (pc' : Nat) (hp : pc + 3 = pc')
    (k : ∀ v T' h', Hr p l e R s m args below meth c Z own bs ml n0 rt T' h' cells' slots' → Q v h' → Wk p.tables e below G (T'.setTop (mkF m pc' Ls (v.toList ++ rest)))) : Wk p.tables e below G (T.setTop (mkF m pc Ls st)) := by
  subst hp hc' hs' hst has
  obtain ⟨⟨locs, Y, N⟩, hx, hc, hm, hZ, ho, hr, hl, eT⟩ := X
  obtain ⟨v, _, ⟨T1, L1, k1, n1⟩, -, Y1, ⟨Lc, hQ, l1, y1, z1⟩, q⟩ := Jvm.LawKit.callS Y hx (y := y) ho (mvT hZ w1) (mvT hZ w2) (mvT hZ w3) (mvT hZ w4) hy (backOf (W := W) (Q := fun v h L => Q v h ∧ Fr n0 L) hM hZ w4 w3 hfr hlo) (g := mkF m pc Ls (argsL.reverse ++ rest)) rfl (by rw [hm]; exact hls) (argsL := argsL) (rest := rest) (lenOf hds hlen) rfl (by show 2 * 0 + _ ≤ _; omega) (hb hc hd) (fun _ _ => ⟨rfl, eT, hce, hsl⟩)
  dsimp only [Pt.U, Pt.locs, Pt.cells, Pt.slots] at Y1 l1 y1 z1 q hQ
  subst l1 y1 z1
  exact Wk.go q (k v T1 T1.heap ⟨⟨_, Y1, Fr.app N hQ.2⟩, hx, hc, hm, hZ, ho, hr, hl, rfl⟩ hQ.1)
theorem Wk.callI (X : Hr p l e R s m args below meth c Z own bs ml n0 rt T h cells slots) {i : Nat} {y : MethodName} {bytes : ByteArray} {maxL : Nat} {rm : Room} {as' : Array Value} {a : Addr} {Q : Option Value → Heap → Prop} (hini : y.name = "<init>") (w1 : (Cond.methodLink own i y).before a0 Z = true) (w2 : (Cond.instanceMethod y).before a0 Z = true) (w3 : (Cond.initialized y.cls).before a0 Z = true) (w4 : (Cond.code y bytes maxL none).before a0 Z = true) (hM : Con l y bytes maxL none rm [] Z as' h n0 Q)
    (hy : y.cls ≠ "java/lang/invoke/MethodHandle" ∧ y.cls ≠ "java/lang/invoke/VarHandle") {ps : List FieldType} {r : Option FieldType} (hds : parseMethodDescriptor y.desc = some ⟨ps, r⟩) (argsL rest : List Value) (hlen : argsL.length = ps.length) (hst : st = argsL.reverse ++ .ref a :: rest) (has : (.ref a :: argsL).toArray = as') (hls : Ls.size = ml) (W : Nat) (hW : (rest.map fun v => v.category).sum ≤ W) (hfr : rm.frames + 1 ≤ R.frames) (hlo : W + (maxL + 11) + rm.locals ≤ R.locals) (hce : cells + rm.cells ≤ R.cells) (hsl : slots + rm.slots ≤ R.slots) (cells' slots' : Nat) (hc' : cells + rm.cells = cells') (hs' : slots + rm.slots = slots')
    (hd : decode bs pc = .ok (.invokespecial i, 3)) (pc' : Nat) (hp : pc + 3 = pc')
    (k : ∀ v T' h', Hr p l e R s m args below meth c Z own bs ml n0 rt T' h' cells' slots' → Q v h' → Wk p.tables e below G (T'.setTop (mkF m pc' Ls (v.toList ++ rest)))) : Wk p.tables e below G (T.setTop (mkF m pc Ls st)) := by
  subst hp hc' hs' hst has
  obtain ⟨⟨locs, Y, N⟩, hx, hc, hm, hZ, ho, hr, hl, eT⟩ := X
  obtain ⟨v, _, ⟨T1, L1, k1, n1⟩, -, Y1, ⟨Lc, hQ, l1, y1, z1⟩, q⟩ := Y.specialBack hx (y := y) hini ho (mvT hZ w1) (mvT hZ w2) (mvT hZ w4) hy (backOf (W := W) (Q := fun v h L => Q v h ∧ Fr n0 L) hM hZ w4 w3 hfr hlo) (g := mkF m pc Ls (argsL.reverse ++ .ref a :: rest)) rfl (by rw [hm]; exact hls) (Steps.refl _) (a := a) (argsL := argsL) (rest := rest) (lenOf hds hlen) rfl (by show 2 * 0 + _ ≤ _; omega) (hb hc hd) (fun _ _ => ⟨rfl, eT, hce, hsl⟩)
  dsimp only [Pt.U, Pt.locs, Pt.cells, Pt.slots] at Y1 l1 y1 z1 q hQ
  subst l1 y1 z1
  exact Wk.go (fun t z => q.trans z) (k v T1 T1.heap ⟨⟨_, Y1, Fr.app N hQ.2⟩, hx, hc, hm, hZ, ho, hr, hl, rfl⟩ hQ.1)
theorem Wk.callV (X : Hr p l e R s m args below meth c Z own bs ml n0 rt T h cells slots) {i : Nat} {y : MethodName} {C : String} {bytes : ByteArray} {maxL : Nat} {rt' : Option FieldType} {rm : Room} {as' : Array Value} {a : Addr} {Q : Option Value → Heap → Prop} (w1 : (Cond.methodLink own i y).before a0 Z = true) (wd : (Cond.declares y).before a0 Z = true) (ws : (Cond.selects C y y).before a0 Z = true) (w2 : (Cond.instanceMethod y).before a0 Z = true) (w3 : (Cond.initialized y.cls).before a0 Z = true) (w4 : (Cond.code y bytes maxL rt').before a0 Z = true) (E : Exa Z h a C) (hM : Con l y bytes maxL rt' rm [] Z as' h n0 Q)
    (hy : y.cls ≠ "java/lang/invoke/MethodHandle" ∧ y.cls ≠ "java/lang/invoke/VarHandle") {ps : List FieldType} {r : Option FieldType} (hds : parseMethodDescriptor y.desc = some ⟨ps, r⟩) (argsL rest : List Value) (hlen : argsL.length = ps.length) (hst : st = argsL.reverse ++ .ref a :: rest) (has : (.ref a :: argsL).toArray = as') (hls : Ls.size = ml) (W : Nat) (hW : (rest.map fun v => v.category).sum ≤ W) (hfr : rm.frames + 1 ≤ R.frames) (hlo : W + (maxL + 11) + rm.locals ≤ R.locals) (hce : cells + rm.cells ≤ R.cells) (hsl : slots + rm.slots ≤ R.slots) (cells' slots' : Nat) (hc' : cells + rm.cells = cells') (hs' : slots + rm.slots = slots')
    (hd : decode bs pc = .ok (.invokevirtual i, 3)) (pc' : Nat) (hp : pc + 3 = pc')
    (k : ∀ v T' h', Hr p l e R s m args below meth c Z own bs ml n0 rt T' h' cells' slots' → Q v h' → Wk p.tables e below G (T'.setTop (mkF m pc' Ls (v.toList ++ rest)))) : Wk p.tables e below G (T.setTop (mkF m pc Ls st)) := by
  subst hp hc' hs' hst has
  obtain ⟨⟨locs, Y, N⟩, hx, hc, hm, hZ, ho, hr, hl, eT⟩ := X
  obtain ⟨cq, kq, qa, qb, qc⟩ := isOf hZ eT E
  obtain ⟨v, _, ⟨T1, L1, k1, n1⟩, -, Y1, ⟨Lc, hQ, l1, y1, z1⟩, q⟩ := Y.virtualBack hx (y := y) (z := y) ho (mvT hZ w1) (mvT hZ wd) (notFace_of_selects (args := #[]) (mvT hZ ws)) (mvT hZ ws) (mvT hZ w2) hy (backOf (W := W) (Q := fun v h L => Q v h ∧ Fr n0 L) hM hZ w4 w3 hfr hlo) qa qc (g := mkF m pc Ls (argsL.reverse ++ .ref a :: rest)) rfl (by rw [hm]; exact hls) (Steps.refl _) (argsL := argsL) (rest := rest) (lenOf hds hlen) rfl (by show 2 * 0 + _ ≤ _; omega) (hb hc hd) (fun _ _ => ⟨rfl, eT, hce, hsl⟩)
  dsimp only [Pt.U, Pt.locs, Pt.cells, Pt.slots] at Y1 l1 y1 z1 q hQ
  subst l1 y1 z1
  exact Wk.go (fun t z => q.trans z) (k v T1 T1.heap ⟨⟨_, Y1, Fr.app N hQ.2⟩, hx, hc, hm, hZ, ho, hr, hl, rfl⟩ hQ.1)
theorem Hr.more (X : Hr p l e R s m args below meth c Z own bs ml n0 rt T h cells slots) {cells' slots' : Nat} (h1 : cells ≤ cells') (h2 : slots ≤ slots') : Hr p l e R s m args below meth c Z own bs ml n0 rt T h cells' slots' := by
  obtain ⟨⟨locs, Y, N⟩, r⟩ := X
  exact ⟨⟨locs, Y.more h1 h2, N⟩, r⟩
variable {Q : Option Value → Heap → Prop} {C N : Nat}
theorem Wk.ireturn (X : Hr p l e R s m args below meth c Z own bs ml n0 (some .int) T h cells slots) {z : Int32} (hd : decode bs pc = .ok (.ireturn, 1)) (hC : cells ≤ C) (hN : slots ≤ N) (q : Q (some (.int z)) h) : Wk p.tables e below (Gl s n0 Q C N) (T.setTop (mkF m pc Ls (.int z :: st))) := by
  obtain ⟨⟨locs, Y, F⟩, hx, hc, hm, hZ, ho, hr, hl, rfl⟩ := X
  obtain ⟨fs, hq, hrun, hended, hW, hsame⟩ := Y.leave (v := some (.int z)) (fun h => by rw [hr] at h; cases h) hl
  exact ⟨_, _, retOut Y hx hr rfl (Or.inl ⟨rfl, Or.inl rfl, _, rfl⟩) (hb hc hd) hq, hrun, hended, _, _, rfl, ⟨q, F⟩, ⟨_, rfl⟩, hW, hsame.mono hC hN⟩
theorem Wk.zreturn (X : Hr p l e R s m args below meth c Z own bs ml n0 (some .boolean) T h cells slots) {z : Int32} (hd : decode bs pc = .ok (.ireturn, 1)) (hC : cells ≤ C) (hN : slots ≤ N) (hz : z = 0 ∨ z = 1) (q : Q (some (.int z)) h) : Wk p.tables e below (Gl s n0 Q C N) (T.setTop (mkF m pc Ls (.int z :: st))) := by
  obtain ⟨⟨locs, Y, F⟩, hx, hc, hm, hZ, ho, hr, hl, rfl⟩ := X
  obtain ⟨fs, hq, hrun, hended, hW, hsame⟩ := Y.leave (v := some (.int z)) (fun h => by rw [hr] at h; cases h) hl
  exact ⟨_, _, retOut Y hx hr (by rcases hz with rfl | rfl <;> rfl) (Or.inl ⟨rfl, Or.inr (Or.inl rfl), _, rfl⟩) (hb hc hd) hq, hrun, hended, _, _, rfl, ⟨q, F⟩, ⟨_, rfl⟩, hW, hsame.mono hC hN⟩
theorem Wk.lreturn (X : Hr p l e R s m args below meth c Z own bs ml n0 (some .long) T h cells slots) {z : Int64} (hd : decode bs pc = .ok (.lreturn, 1)) (hC : cells ≤ C) (hN : slots ≤ N) (q : Q (some (.long z)) h) : Wk p.tables e below (Gl s n0 Q C N) (T.setTop (mkF m pc Ls (.long z :: st))) := by
  obtain ⟨⟨locs, Y, F⟩, hx, hc, hm, hZ, ho, hr, hl, rfl⟩ := X
  obtain ⟨fs, hq, hrun, hended, hW, hsame⟩ := Y.leave (v := some (.long z)) (fun h => by rw [hr] at h; cases h) hl
  exact ⟨_, _, retOut Y hx hr rfl (Or.inr (Or.inl ⟨rfl, rfl, _, rfl⟩)) (hb hc hd) hq, hrun, hended, _, _, rfl, ⟨q, F⟩, ⟨_, rfl⟩, hW, hsame.mono hC hN⟩
theorem Wk.areturn {ty : FieldType} (X : Hr p l e R s m args below meth c Z own bs ml n0 (some ty) T h cells slots) {v : Value} (hd : decode bs pc = .ok (.areturn, 1)) (hC : cells ≤ C) (hN : slots ≤ N) (ht : ty.isReference = true) (hn : narrow ty v = v) (hv : v.isRef = true) (q : Q (some v) h) : Wk p.tables e below (Gl s n0 Q C N) (T.setTop (mkF m pc Ls (v :: st))) := by
  obtain ⟨⟨locs, Y, F⟩, hx, hc, hm, hZ, ho, hr, hl, rfl⟩ := X
  obtain ⟨fs, hq, hrun, hended, hW, hsame⟩ := Y.leave (v := some v) (fun h => by rw [hr] at h; cases h) hl
  exact ⟨_, _, retOut Y hx hr hn (Or.inr (Or.inr (Or.inr (Or.inr ⟨rfl, ht, hv⟩)))) (hb hc hd) hq, hrun, hended, _, _, rfl, ⟨q, F⟩, ⟨_, rfl⟩, hW, hsame.mono hC hN⟩
theorem Wk.vreturn (X : Hr p l e R s m args below meth c Z own bs ml n0 none T h cells slots) (hd : decode bs pc = .ok (.return_, 1)) (hC : cells ≤ C) (hN : slots ≤ N) (q : Q none h) : Wk p.tables e below (Gl s n0 Q C N) (T.setTop (mkF m pc Ls [])) := by
  obtain ⟨⟨locs, Y, F⟩, hx, hc, hm, hZ, ho, hr, hl, rfl⟩ := X
  obtain ⟨fs, hq, hrun, hended, hW, hsame⟩ := Y.leave (v := none) (fun _ => rfl) hl
  exact ⟨_, _, Y.returnOut hx hr (hb hc hd) hq, hrun, hended, _, _, rfl, ⟨q, F⟩, ⟨_, rfl⟩, hW, hsame.mono hC hN⟩
end Layer
theorem nn_new {n0 a r n : Nat} (q : n0 ≤ a) (h : a < n) (g : r = n) : n0 ≤ r := by omega
theorem ne_new {a r n : Nat} (h : a < n) (g : r = n) : a ≠ r := by omega
section Layer4
variable {p : Program} {l : Launch} {e : Env} {R : Room} {s : State} {m : MethodId} {args : Array Value} {below : List Frame} {meth : Method} {c : Code} {Z : State} {own : String} {bs : ByteArray} {ml n0 : Nat} {rt : Option FieldType} {T : State} {h h' : Heap} {cells slots : Nat} {G : State → Outcome → Prop} {pc : Nat} {Ls : Array Slot} {st : List Value} {a0 : Array Value} {a b : Addr}
/-- a cell that the VM knows -/
def Kn (h : Heap) (a : Addr) : Prop := ∃ cell : Cell, h[a]? = some cell ∧ cell.vm ≠ .unknown
theorem Kn.of {O n d : String} {v : Value} (F : Fld Z h a O n d v) : Kn h a := by
  obtain ⟨cell, _, _, _, _, h1, -, -, h4, -⟩ := F; exact ⟨cell, h1, h4⟩
theorem Kn.ext (N : Kn h a) (E : Ext h h') : Kn h' a := by
  obtain ⟨cell, h1, h2⟩ := N; exact ⟨cell, E.2 _ _ h1, h2⟩
theorem Kn.keep {ws : List Addr} (N : Kn h a) (K : Keep h h' ws) : Kn h' a := by
  obtain ⟨cell, h1, h2⟩ := N
  obtain ⟨c', q1, -, q3, -⟩ := K.2.2 a cell h1
  exact ⟨c', q1, by rw [q3]; exact h2⟩
theorem Kn.wr {sl : Nat} {v : Value} (N : Kn h a) (W : Wr h h' b sl v) : Kn h' a := N.keep (Keep.of_wr W)
theorem Wk.putF (X : Hr p l e R s m args below meth c Z own bs ml n0 rt T h cells slots) {i kk : Nat} {R0 O n d C : String} {ty : FieldType} {v : Value} (w : (Cond.fieldLink own i R0 n d).before a0 Z = true) (via : Via Z R0 O n d) (E : Exa Z h a C) (N : Kn h a) (L : (Cond.lays C O n d).before a0 Z = true ∨ ((Cond.laysFinal C O n d).before a0 Z = true ∧ own = O ∧ meth.name = "<init>")) (wi : (Cond.instantiable C kk).before a0 Z = true)
    (hty : parseFieldDescriptor d = some ty) (hn : narrow ty v = v) (hf : fits ty v = true) (hnew : n0 ≤ a) (hd : decode bs pc = .ok (.putfield i, 3)) (pc' : Nat) (hp : pc + 3 = pc')
    (k : ∀ T' h', Hr p l e R s m args below meth c Z own bs ml n0 rt T' h' cells slots → Wr h h' a (Jvm.RoadKit.slotOf Z O n d) v → Fld Z h' a O n d v → Wk p.tables e below G (T'.setTop (mkF m pc' Ls st))) : Wk p.tables e below G (T.setTop (mkF m pc Ls (v :: .ref a :: st))) := by
  obtain ⟨old, F⟩ := fld_laid (a0 := a0) E N wi (O := O) (n := n) (d := d) (L.imp id (·.1))
  exact Wk.putfield X w via F E L wi hty hn hf hnew hd pc' hp (fun T' h' X' W => k T' h' X' W (F.same W))
theorem Wk.castY (X : Hr p l e R s m args below meth c Z own bs ml n0 rt T h cells slots) {i : Nat} {K : String} (w : (Cond.classLink own i K).before a0 Z = true) (F : Ins Z h a K true) (hd : decode bs pc = .ok (.checkcast i, 3)) (pc' : Nat) (hp : pc + 3 = pc')
    (k : ∀ T', Hr p l e R s m args below meth c Z own bs ml n0 rt T' h cells slots → Wk p.tables e below G (T'.setTop (mkF m pc' Ls (.ref a :: st)))) : Wk p.tables e below G (T.setTop (mkF m pc Ls (.ref a :: st))) := by
  subst hp
  obtain ⟨⟨locs, Y, N⟩, hx, hc, hm, hZ, ho, hr, hl, eT⟩ := X
  obtain ⟨T', Y', e', q⟩ := Jvm.RoadKit.castY Y hx hZ ho w eT F (g := mkF m pc Ls (.ref a :: st)) rfl rfl (hb hc hd)
  exact Wk.go q (k T' ⟨⟨locs, Y', N⟩, hx, hc, hm, hZ, ho, hr, hl, e'⟩)
theorem Wk.instY (X : Hr p l e R s m args below meth c Z own bs ml n0 rt T h cells slots) {i : Nat} {K : String} (w : (Cond.classLink own i K).before a0 Z = true) (F : Ins Z h a K true) (hd : decode bs pc = .ok (.instanceof i, 3)) (pc' : Nat) (hp : pc + 3 = pc')
    (k : ∀ T', Hr p l e R s m args below meth c Z own bs ml n0 rt T' h cells slots → Wk p.tables e below G (T'.setTop (mkF m pc' Ls (.int 1 :: st)))) : Wk p.tables e below G (T.setTop (mkF m pc Ls (.ref a :: st))) := by
  subst hp
  obtain ⟨⟨locs, Y, N⟩, hx, hc, hm, hZ, ho, hr, hl, eT⟩ := X
  obtain ⟨T', Y', e', q⟩ := Jvm.RoadKit.instY Y hx hZ ho w eT F (g := mkF m pc Ls (.ref a :: st)) rfl rfl (hb hc hd)
  exact Wk.go q (k T' ⟨⟨locs, Y', N⟩, hx, hc, hm, hZ, ho, hr, hl, e'⟩)
/-- a private method's call, by its contract: that its class is no interface comes of another method's 'selects' word -/
theorem Wk.callP (X : Hr p l e R s m args below meth c Z own bs ml n0 rt T h cells slots) {i : Nat} {y z : MethodName} {C : String} {bytes : ByteArray} {maxL : Nat} {rt' : Option FieldType} {rm : Room} {as' : Array Value} {Q : Option Value → Heap → Prop} (w1 : (Cond.methodLink own i y).before a0 Z = true) (wp : (Cond.privateMethod y).before a0 Z = true) (w2 : (Cond.instanceMethod y).before a0 Z = true) (w3 : (Cond.initialized y.cls).before a0 Z = true) (w4 : (Cond.code y bytes maxL rt').before a0 Z = true) (ws : (Cond.selects C z z).before a0 Z = true) (hz : z.cls = y.cls) (E : Exa Z h a C) (hM : Con l y bytes maxL rt' rm [] Z as' h n0 Q)
    (hy : y.cls ≠ "java/lang/invoke/MethodHandle" ∧ y.cls ≠ "java/lang/invoke/VarHandle") {ps : List FieldType} {r : Option FieldType} (hds : parseMethodDescriptor y.desc = some ⟨ps, r⟩) (argsL rest : List Value) (hlen : argsL.length = ps.length) (hst : st = argsL.reverse ++ .ref a :: rest) (has : (.ref a :: argsL).toArray = as') (hls : Ls.size = ml) (W : Nat) (hW : (rest.map fun v => v.category).sum ≤ W) (hfr : rm.frames + 1 ≤ R.frames) (hlo : W + (maxL + 11) + rm.locals ≤ R.locals) (hce : cells + rm.cells ≤ R.cells) (hsl : slots + rm.slots ≤ R.slots) (cells' slots' : Nat) (hc' : cells + rm.cells = cells') (hs' : slots + rm.slots = slots')
    (hd : decode bs pc = .ok (.invokevirtual i, 3)) (pc' : Nat) (hp : pc + 3 = pc')
    (k : ∀ v T' h', Hr p l e R s m args below meth c Z own bs ml n0 rt T' h' cells' slots' → Q v h' → Wk p.tables e below G (T'.setTop (mkF m pc' Ls (v.toList ++ rest)))) : Wk p.tables e below G (T.setTop (mkF m pc Ls st)) := by
  subst hp hc' hs' hst has
  obtain ⟨⟨locs, Y, N⟩, hx, hc, hm, hZ, ho, hr, hl, eT⟩ := X
  obtain ⟨cell, hcell, hobj⟩ := E.cell
  obtain ⟨mk, methM, hnamed, hmethM, hstM, habM⟩ := Cond.instanceMethod_spec (mv (args := args) hZ w2)
  obtain ⟨methM', cM, hmethM', -, -, -, -, -, -, hsigM⟩ := Cond.code_spec hnamed (mv (args := args) hZ w4)
  cases hmethM.symm.trans hmethM'
  obtain ⟨c2, r2, m2, q1, q2, q3, q4, kP, hkP, hkPi⟩ := Cond.selects_spec (mv (args := args) hZ ws)
  have hcls : m2.cls = mk.cls := by
    have a1 := findClass_of_methodNamed q3
    have a2 := findClass_of_methodNamed hnamed
    rw [hz] at a1
    exact Option.some.inj (a1.symm.trans a2)
  rw [hcls] at hkP
  have hpriv := Cond.privateMethod_at (mvP hZ wp (args := args))
  have hselP : selectMethod e.platform s.vm cell.cls mk = .method mk := selectMethod_private hmethM (hpriv mk methM hnamed hmethM)
  obtain ⟨vm₁, X₁, hstep₁⟩ := Y.invokevirtual hx ho (mv (args := args) hZ w1) hnamed hmethM hstM hkP hkPi hy (a := a) (cell := cell) (by rw [eT]; exact hcell) hobj hselP hmethM habM hkP hkPi (g := mkF m pc Ls (argsL.reverse ++ .ref a :: rest)) rfl (argsL := argsL) (rest := rest) (lenOf hds hlen _ hsigM) rfl (hb hc hd)
  have hW₁ : s.WarmedH vm₁ := X₁.warmed
  have hK := backOf (len := 3) (W := W) (Q := fun v h L => Q v h ∧ Fr n0 L) (below := below) (s := s) (args := args) (p := p) (e := e) hM hZ w4 w3 hfr hlo
  obtain ⟨v, ⟨T1, L1, k1, n1⟩, Y1, ⟨Lc, hQ, l1, y1, z1⟩, hsteps⟩ := hK m meth c ⟨T.setVm vm₁, locs, cells, slots⟩ (mkF m pc Ls rest) (.invokevirtual i) mk (.ref a :: argsL).toArray X₁ rfl (by rw [hm]; exact hls) (hb hc hd) (by show 2 * 0 + (rest.map fun v => v.category).sum ≤ W; omega) (X₁.named hnamed) ⟨rfl, eT, hce, hsl⟩
  dsimp only [Pt.U, Pt.locs, Pt.cells, Pt.slots] at Y1 l1 y1 z1 hQ hsteps
  subst l1 y1 z1
  refine Wk.go (fun t z => ?_) (k v T1 T1.heap ⟨⟨_, Y1, Fr.app N hQ.2⟩, hx, hc, hm, hZ, ho, hr, hl, rfl⟩ hQ.1)
  exact hstep₁ _ fun acts => by rw [doInvoke_state]; exact hsteps.trans z
/-- the int on top, written otherwise -/
theorem Wk.topI {x : Int32} (z : Int32) (q : x = z) (k : Wk p.tables e below G (T.setTop (mkF m pc Ls (.int z :: st)))) : Wk p.tables e below G (T.setTop (mkF m pc Ls (.int x :: st))) := by
  subst q; exact k
/-- roads that meet with an int of any worth -/
theorem Wk.joinI {a : State} (b : Int32 → State) (k2 : ∀ q, Wk p.tables e below G (b q)) (k1 : (∀ q, Wk p.tables e below G (b q)) → Wk p.tables e below G a) : Wk p.tables e below G a := k1 k2
theorem Wk.dup2 (X : Hr p l e R s m args below meth c Z own bs ml n0 rt T h cells slots) {v w : Value} (hd : decode bs pc = .ok (.dup2, 1)) (pc' : Nat) (hp : pc + 1 = pc') (hv : v.category = 1) (hw : w.category = 1) (k : Wk p.tables e below G (T.setTop (mkF m pc' Ls (v :: w :: v :: w :: st)))) : Wk p.tables e below G (T.setTop (mkF m pc Ls (v :: w :: st))) := by
  subst hp
  exact Wk.pu X (fun hA hx hc t q => Jvm.Free.XT.dup2 hA hx rfl (hb hc hd) rfl hv hw q) k
theorem Wk.nreturn {ty : FieldType} (X : Hr p l e R s m args below meth c Z own bs ml n0 (some ty) T h cells slots) {Q : Option Value → Heap → Prop} {C N : Nat} {z : Int32} (ht : ty = .int ∨ ty = .boolean ∨ ty = .byte ∨ ty = .char ∨ ty = .short) (hd : decode bs pc = .ok (.ireturn, 1)) (hC : cells ≤ C) (hN : slots ≤ N) (hz : narrow ty (.int z) = .int z) (q : Q (some (.int z)) h) : Wk p.tables e below (Gl s n0 Q C N) (T.setTop (mkF m pc Ls (.int z :: st))) := by
  obtain ⟨⟨locs, Y, F⟩, hx, hc, hm, hZ, ho, hr, hl, rfl⟩ := X
  obtain ⟨fs, hq, hrun, hended, hW, hsame⟩ := Y.leave (v := some (.int z)) (fun h => by rw [hr] at h; cases h) hl
  exact ⟨_, _, retOut Y hx hr hz (Or.inl ⟨rfl, ht, _, rfl⟩) (hb hc hd) hq, hrun, hended, _, _, rfl, ⟨q, F⟩, ⟨_, rfl⟩, hW, hsame.mono hC hN⟩
end Layer4
theorem t0 {a0 : Array Value} {Z : State} (hw : ∀ d ∈ tables_1, d.before a0 Z = true) : Jvm.Cond.before (Jvm.Cond.arrayClass Jvm.ClassFile.FieldType.int) a0 Z = true := hw _ (List.mem_of_getElem? (i := 0) rfl)
theorem t1 {a0 : Array Value} {Z : State} (hw : ∀ d ∈ tables_1, d.before a0 Z = true) : Jvm.Cond.before (Jvm.Cond.methodLink "com/example/semblance/semblance/condition/TokenSetSharedPinLaw" (7 : Nat) ({ cls := "com/example/semblance/semblance/condition/TokenSetSharedPinLaw", name := "order", desc := "([III)V" } : Jvm.MethodName)) a0 Z = true := hw _ (List.mem_of_getElem? (i := 1) rfl)
theorem t2 {a0 : Array Value} {Z : State} (hw : ∀ d ∈ tables_1, d.before a0 Z = true) : Jvm.Cond.before (Jvm.Cond.static ({ cls := "com/example/semblance/semblance/condition/TokenSetSharedPinLaw", name := "order", desc := "([III)V" } : Jvm.MethodName)) a0 Z = true := hw _ (List.mem_of_getElem? (i := 2) rfl)
theorem t3 {a0 : Array Value} {Z : State} (hw : ∀ d ∈ tables_1, d.before a0 Z = true) : Jvm.Cond.before (Jvm.Cond.initialized "com/example/semblance/semblance/condition/TokenSetSharedPinLaw") a0 Z = true := hw _ (List.mem_of_getElem? (i := 3) rfl)
theorem t4 {a0 : Array Value} {Z : State} (hw : ∀ d ∈ tables_1, d.before a0 Z = true) : Jvm.Cond.before (Jvm.Cond.code ({ cls := "com/example/semblance/semblance/condition/TokenSetSharedPinLaw", name := "order", desc := "([III)V" } : Jvm.MethodName) method_3_code (4 : Nat) (Option.none : Option Jvm.ClassFile.FieldType)) a0 Z = true := hw _ (List.mem_of_getElem? (i := 4) rfl)
theorem t5 {a0 : Array Value} {Z : State} (hw : ∀ d ∈ tables_1, d.before a0 Z = true) : Jvm.Cond.before (Jvm.Cond.methodLink "com/example/semblance/semblance/condition/TokenSetSharedPinLaw" (13 : Nat) ({ cls := "com/example/semblance/semblance/condition/TokenSetSharedPinLaw", name := "pick", desc := "([II)[I" } : Jvm.MethodName)) a0 Z = true := hw _ (List.mem_of_getElem? (i := 5) rfl)
theorem t6 {a0 : Array Value} {Z : State} (hw : ∀ d ∈ tables_1, d.before a0 Z = true) : Jvm.Cond.before (Jvm.Cond.static ({ cls := "com/example/semblance/semblance/condition/TokenSetSharedPinLaw", name := "pick", desc := "([II)[I" } : Jvm.MethodName)) a0 Z = true := hw _ (List.mem_of_getElem? (i := 6) rfl)
theorem t7 {a0 : Array Value} {Z : State} (hw : ∀ d ∈ tables_1, d.before a0 Z = true) : Jvm.Cond.before (Jvm.Cond.code ({ cls := "com/example/semblance/semblance/condition/TokenSetSharedPinLaw", name := "pick", desc := "([II)[I" } : Jvm.MethodName) method_5_code (4 : Nat) (Option.some (Jvm.ClassFile.FieldType.array Jvm.ClassFile.FieldType.int))) a0 Z = true := hw _ (List.mem_of_getElem? (i := 7) rfl)
theorem t8 {a0 : Array Value} {Z : State} (hw : ∀ d ∈ tables_1, d.before a0 Z = true) : Jvm.Cond.before (Jvm.Cond.methodLink "com/example/semblance/semblance/condition/TokenSetSharedPinLaw" (17 : Nat) ({ cls := "com/example/semblance/semblance/condition/TokenSetSharedPinLaw", name := "count", desc := "(I)I" } : Jvm.MethodName)) a0 Z = true := hw _ (List.mem_of_getElem? (i := 8) rfl)
theorem t9 {a0 : Array Value} {Z : State} (hw : ∀ d ∈ tables_1, d.before a0 Z = true) : Jvm.Cond.before (Jvm.Cond.static ({ cls := "com/example/semblance/semblance/condition/TokenSetSharedPinLaw", name := "count", desc := "(I)I" } : Jvm.MethodName)) a0 Z = true := hw _ (List.mem_of_getElem? (i := 9) rfl)
theorem t10 {a0 : Array Value} {Z : State} (hw : ∀ d ∈ tables_1, d.before a0 Z = true) : Jvm.Cond.before (Jvm.Cond.code ({ cls := "com/example/semblance/semblance/condition/TokenSetSharedPinLaw", name := "count", desc := "(I)I" } : Jvm.MethodName) method_4_code (1 : Nat) (Option.some Jvm.ClassFile.FieldType.int)) a0 Z = true := hw _ (List.mem_of_getElem? (i := 10) rfl)
theorem t11 {a0 : Array Value} {Z : State} (hw : ∀ d ∈ tables_1, d.before a0 Z = true) : Jvm.Cond.before (Jvm.Cond.methodLink "com/example/semblance/semblance/condition/TokenSetSharedPinLaw" (21 : Nat) ({ cls := "com/example/semblance/semblance/condition/TokenSet", name := "shared", desc := "([I[I)I" } : Jvm.MethodName)) a0 Z = true := hw _ (List.mem_of_getElem? (i := 11) rfl)
theorem t12 {a0 : Array Value} {Z : State} (hw : ∀ d ∈ tables_1, d.before a0 Z = true) : Jvm.Cond.before (Jvm.Cond.static ({ cls := "com/example/semblance/semblance/condition/TokenSet", name := "shared", desc := "([I[I)I" } : Jvm.MethodName)) a0 Z = true := hw _ (List.mem_of_getElem? (i := 12) rfl)
theorem t13 {a0 : Array Value} {Z : State} (hw : ∀ d ∈ tables_1, d.before a0 Z = true) : Jvm.Cond.before (Jvm.Cond.initialized "com/example/semblance/semblance/condition/TokenSet") a0 Z = true := hw _ (List.mem_of_getElem? (i := 13) rfl)
theorem t14 {a0 : Array Value} {Z : State} (hw : ∀ d ∈ tables_1, d.before a0 Z = true) : Jvm.Cond.before (Jvm.Cond.code ({ cls := "com/example/semblance/semblance/condition/TokenSet", name := "shared", desc := "([I[I)I" } : Jvm.MethodName) prog_43_method_6_code (5 : Nat) (Option.some Jvm.ClassFile.FieldType.int)) a0 Z = true := hw _ (List.mem_of_getElem? (i := 14) rfl)
theorem pd0 : parseMethodDescriptor "(I)I" = some ⟨[.int], some .int⟩ := by decide +kernel
theorem pd1 : parseMethodDescriptor "([III)V" = some ⟨[(.array .int), .int, .int], none⟩ := by decide +kernel
theorem pd2 : parseMethodDescriptor "([II)[I" = some ⟨[(.array .int), .int], some (.array .int)⟩ := by decide +kernel
theorem pd3 : parseMethodDescriptor "([I[I)I" = some ⟨[(.array .int), (.array .int)], some .int⟩ := by decide +kernel
theorem pn0 : plainName "com/example/semblance/semblance/condition/TokenSetSharedPinLaw" = true := by first | (simp [plainName, overriddenIn]; done) | decide +kernel
theorem pn1 : plainName "com/example/semblance/semblance/condition/TokenSet" = true := by first | (simp [plainName, overriddenIn]; done) | decide +kernel
/-! the plain law: a merge of two picked parts of a rising list counts what both hold -/
def mrg : List Int32 → List Int32 → Nat
  | [], _ => 0
  | _ :: _, [] => 0
  | x :: xs, y :: ys => if x < y then mrg xs (y :: ys) else if y < x then mrg (x :: xs) ys else mrg xs ys + 1
termination_by xs ys => xs.length + ys.length
theorem mrg_nil (xs : List Int32) : mrg xs [] = 0 := by cases xs <;> simp [mrg]
theorem mrg_nil' (ys : List Int32) : mrg [] ys = 0 := by simp [mrg]
theorem mrg_lt {x y : Int32} (xs ys : List Int32) (q : x < y) : mrg (x :: xs) (y :: ys) = mrg xs (y :: ys) := by rw [mrg]; simp [q]
theorem own_asymm {x y : Int32} (q : x < y) : ¬ y < x := by rw [Int32.lt_iff_toInt_lt] at q ⊢; omega
theorem mrg_gt {x y : Int32} (xs ys : List Int32) (q : y < x) : mrg (x :: xs) (y :: ys) = mrg (x :: xs) ys := by rw [mrg]; simp [q, own_asymm q]
theorem mrg_eq {x y : Int32} (xs ys : List Int32) (q : ¬ x < y) (r : ¬ y < x) : mrg (x :: xs) (y :: ys) = mrg xs ys + 1 := by rw [mrg]; simp [q, r]
theorem own_irrefl (x : Int32) : ¬ x < x := by rw [Int32.lt_iff_toInt_lt]; omega
def selA (L : List (Int32 × Bool × Bool)) : List Int32 := (L.filter (fun t => t.2.1)).map (fun t => t.1)
def selB (L : List (Int32 × Bool × Bool)) : List Int32 := (L.filter (fun t => t.2.2)).map (fun t => t.1)
def both (L : List (Int32 × Bool × Bool)) : Nat := (L.filter (fun t => t.2.1 && t.2.2)).length
theorem mrg_sel : ∀ (L : List (Int32 × Bool × Bool)), L.Pairwise (fun s t => s.1 < t.1) → mrg (selA L) (selB L) = both L
  | [], _ => by simp [selA, selB, both, mrg]
  | t :: L, hP => by
    obtain ⟨h1, h2⟩ := List.pairwise_cons.mp hP
    have ih := mrg_sel L h2
    have hA : ∀ x ∈ selA L, t.1 < x := fun x hx => by
      obtain ⟨s, hs, rfl⟩ := List.mem_map.mp hx
      exact h1 s (List.mem_filter.mp hs).1
    have hB : ∀ x ∈ selB L, t.1 < x := fun x hx => by
      obtain ⟨s, hs, rfl⟩ := List.mem_map.mp hx
      exact h1 s (List.mem_filter.mp hs).1
    obtain ⟨v, a, b⟩ := t
    cases a <;> cases b
    · simpa [selA, selB, both] using ih
    · have e1 : selA ((v, false, true) :: L) = selA L := by simp [selA]
      have e2 : selB ((v, false, true) :: L) = v :: selB L := by simp [selB]
      have e3 : both ((v, false, true) :: L) = both L := by simp [both]
      rw [e1, e2, e3, ← ih]
      cases hq : selA L with
      | nil => rw [mrg_nil', mrg_nil']
      | cons x xs => exact mrg_gt xs _ (hA x (by rw [hq]; simp))
    · have e1 : selA ((v, true, false) :: L) = v :: selA L := by simp [selA]
      have e2 : selB ((v, true, false) :: L) = selB L := by simp [selB]
      have e3 : both ((v, true, false) :: L) = both L := by simp [both]
      rw [e1, e2, e3, ← ih]
      cases hq : selB L with
      | nil => rw [mrg_nil, mrg_nil]
      | cons y ys => exact mrg_lt _ ys (hB y (by rw [hq]; simp))
    · have e1 : selA ((v, true, true) :: L) = v :: selA L := by simp [selA]
      have e2 : selB ((v, true, true) :: L) = v :: selB L := by simp [selB]
      have e3 : both ((v, true, true) :: L) = both L + 1 := by simp [both]
      rw [e1, e2, e3, mrg_eq _ _ (own_irrefl v) (own_irrefl v), ih]
def pickL (m c0 c1 c2 c3 : Int32) : List Int32 := (if m &&& (1 : Int32) = (0 : Int32) then [] else [c0]) ++ (if m &&& (2 : Int32) = (0 : Int32) then [] else [c1]) ++ (if m &&& (4 : Int32) = (0 : Int32) then [] else [c2]) ++ (if m &&& (8 : Int32) = (0 : Int32) then [] else [c3])
def cntN (m : Int32) : Nat := (if m &&& (1 : Int32) = (0 : Int32) then 0 else 1) + (if m &&& (2 : Int32) = (0 : Int32) then 0 else 1) + (if m &&& (4 : Int32) = (0 : Int32) then 0 else 1) + (if m &&& (8 : Int32) = (0 : Int32) then 0 else 1)
def cntE (m : Int32) : Int32 := ((((m &&& (1 : Int32)) + ((m >>> ((1 : Int32) &&& 31)) &&& (1 : Int32))) + ((m >>> ((2 : Int32) &&& 31)) &&& (1 : Int32))) + ((m >>> ((3 : Int32) &&& 31)) &&& (1 : Int32)))
theorem cnt_fin : ∀ k : Fin 16, cntE (Int32.ofNat k.val) = Int32.ofNat (cntN (Int32.ofNat k.val)) := by decide +kernel
theorem own_le4 (m : Int32) : cntN m ≤ 4 := by unfold cntN; split <;> split <;> split <;> split <;> omega
theorem own_fin16 (m : Int32) (h1 : 0 ≤ m.toInt) (h2 : m.toInt < 16) : ∃ k : Fin 16, m = Int32.ofNat k.val := by
  refine ⟨⟨m.toInt.toNat, by omega⟩, Int32.toInt_inj.mp ?_⟩
  rw [Int32.toInt_ofNat_of_lt (by show m.toInt.toNat < 2 ^ 31; omega)]
  show m.toInt = (m.toInt.toNat : Int)
  omega
theorem own_cnt (m : Int32) (h1 : 0 ≤ m.toInt) (h2 : m.toInt < 16) : (cntE m).toInt = (cntN m : Int) := by
  obtain ⟨k, rfl⟩ := own_fin16 m h1 h2
  rw [cnt_fin k, Int32.toInt_ofNat_of_lt (by have := own_le4 (Int32.ofNat k.val); omega)]
def bit (m b : Int32) : Bool := decide (¬ m &&& b = (0 : Int32))
theorem pick_selA (ma mb c0 c1 c2 c3 : Int32) : pickL ma c0 c1 c2 c3 = selA [(c0, bit ma 1, bit mb 1), (c1, bit ma 2, bit mb 2), (c2, bit ma 4, bit mb 4), (c3, bit ma 8, bit mb 8)] := by
  by_cases h1 : ma &&& (1 : Int32) = (0 : Int32) <;> by_cases h2 : ma &&& (2 : Int32) = (0 : Int32) <;> by_cases h3 : ma &&& (4 : Int32) = (0 : Int32) <;> by_cases h4 : ma &&& (8 : Int32) = (0 : Int32) <;> simp [pickL, selA, bit, h1, h2, h3, h4]
theorem pick_selB (ma mb c0 c1 c2 c3 : Int32) : pickL mb c0 c1 c2 c3 = selB [(c0, bit ma 1, bit mb 1), (c1, bit ma 2, bit mb 2), (c2, bit ma 4, bit mb 4), (c3, bit ma 8, bit mb 8)] := by
  by_cases h1 : mb &&& (1 : Int32) = (0 : Int32) <;> by_cases h2 : mb &&& (2 : Int32) = (0 : Int32) <;> by_cases h3 : mb &&& (4 : Int32) = (0 : Int32) <;> by_cases h4 : mb &&& (8 : Int32) = (0 : Int32) <;> simp [pickL, selB, bit, h1, h2, h3, h4]
theorem both_fin : ∀ i j : Fin 16, Int32.ofNat (both [((0 : Int32), bit (Int32.ofNat i.val) 1, bit (Int32.ofNat j.val) 1), (0, bit (Int32.ofNat i.val) 2, bit (Int32.ofNat j.val) 2), (0, bit (Int32.ofNat i.val) 4, bit (Int32.ofNat j.val) 4), (0, bit (Int32.ofNat i.val) 8, bit (Int32.ofNat j.val) 8)]) = cntE (Int32.ofNat i.val &&& Int32.ofNat j.val) := by decide +kernel
theorem own_shared (ma mb c0 c1 c2 c3 : Int32) (a1 : 0 ≤ ma.toInt) (a2 : ma.toInt < 16) (b1 : 0 ≤ mb.toInt) (b2 : mb.toInt < 16) (h1 : c0 < c1) (h2 : c1 < c2) (h3 : c2 < c3) : Int32.ofNat (mrg (pickL ma c0 c1 c2 c3) (pickL mb c0 c1 c2 c3)) = cntE (ma &&& mb) := by
  rw [pick_selA ma mb, pick_selB ma mb, mrg_sel]
  · obtain ⟨i, rfl⟩ := own_fin16 ma a1 a2
    obtain ⟨j, rfl⟩ := own_fin16 mb b1 b2
    rw [← both_fin i j]
    unfold both
    congr 1
    generalize bit (Int32.ofNat i.val) 1 = x1
    generalize bit (Int32.ofNat i.val) 2 = x2
    generalize bit (Int32.ofNat i.val) 4 = x3
    generalize bit (Int32.ofNat i.val) 8 = x4
    generalize bit (Int32.ofNat j.val) 1 = y1
    generalize bit (Int32.ofNat j.val) 2 = y2
    generalize bit (Int32.ofNat j.val) 4 = y3
    generalize bit (Int32.ofNat j.val) 8 = y4
    revert x1 x2 x3 x4 y1 y2 y3 y4
    intro x1 x2 x3 x4 y1 y2 y3 y4
    cases x1 <;> cases x2 <;> cases x3 <;> cases x4 <;> cases y1 <;> cases y2 <;> cases y3 <;> cases y4 <;> rfl
  · have q1 : c0 < c2 := by rw [Int32.lt_iff_toInt_lt] at *; omega
    have q2 : c0 < c3 := by rw [Int32.lt_iff_toInt_lt] at *; omega
    have q3 : c1 < c3 := by rw [Int32.lt_iff_toInt_lt] at *; omega
    simp [h1, h2, h3, q1, q2, q3]
theorem own_ofNat {i : Nat} (h : i < 2 ^ 31) : (Int32.ofNat i).toInt = i := Int32.toInt_ofNat_of_lt h
theorem own_inc (i : Nat) : Int32.ofNat i + (1 : Int32) = Int32.ofNat (i + 1) := by
  rw [Int32.ofNat_add]; rfl
theorem own_sorted {w x y z a0 a1 b0 b1 c0 c2 d1 d3 e1 e2 : Int32} (h1 : (a0 = w ∧ a1 = x ∧ ¬ x < w) ∨ (a0 = x ∧ a1 = w ∧ x < w)) (h2 : (b0 = y ∧ b1 = z ∧ ¬ z < y) ∨ (b0 = z ∧ b1 = y ∧ z < y)) (h3 : (c0 = a0 ∧ c2 = b0 ∧ ¬ b0 < a0) ∨ (c0 = b0 ∧ c2 = a0 ∧ b0 < a0)) (h4 : (d1 = a1 ∧ d3 = b1 ∧ ¬ b1 < a1) ∨ (d1 = b1 ∧ d3 = a1 ∧ b1 < a1)) (h5 : (e1 = d1 ∧ e2 = c2 ∧ ¬ c2 < d1) ∨ (e1 = c2 ∧ e2 = d1 ∧ c2 < d1)) : ¬ e1 < c0 ∧ ¬ e2 < e1 ∧ ¬ d3 < e2 := by
  simp only [← Int32.toInt_inj, Int32.lt_iff_toInt_lt] at *
  omega
theorem own_strict {x y : Int32} (h : ¬ y < x) (q : ¬ x = y) : x < y := by
  simp only [← Int32.toInt_inj, Int32.lt_iff_toInt_lt] at *
  omega
theorem own_set_self {us : List Value} {i : Nat} {v : Value} (h : us[i]? = some v) : us.set i v = us := by
  obtain ⟨hi, rfl⟩ := List.getElem?_eq_some_iff.mp h
  exact List.set_getElem_self hi
theorem d1_0 : decode method_3_code 0 = .ok (.aload_n 0, 1) := by decide +kernel
theorem d1_1 : decode method_3_code 1 = .ok (.iload_n 1, 1) := by decide +kernel
theorem d1_2 : decode method_3_code 2 = .ok (.iaload, 1) := by decide +kernel
theorem d1_3 : decode method_3_code 3 = .ok (.aload_n 0, 1) := by decide +kernel
theorem d1_4 : decode method_3_code 4 = .ok (.iload_n 2, 1) := by decide +kernel
theorem d1_5 : decode method_3_code 5 = .ok (.iaload, 1) := by decide +kernel
theorem d1_6 : decode method_3_code 6 = .ok (.if_icmp .le 17, 3) := by decide +kernel
theorem d1_9 : decode method_3_code 9 = .ok (.aload_n 0, 1) := by decide +kernel
theorem d1_10 : decode method_3_code 10 = .ok (.iload_n 1, 1) := by decide +kernel
theorem d1_11 : decode method_3_code 11 = .ok (.iaload, 1) := by decide +kernel
theorem d1_12 : decode method_3_code 12 = .ok (.istore_n 3, 1) := by decide +kernel
theorem d1_13 : decode method_3_code 13 = .ok (.aload_n 0, 1) := by decide +kernel
theorem d1_14 : decode method_3_code 14 = .ok (.iload_n 1, 1) := by decide +kernel
theorem d1_15 : decode method_3_code 15 = .ok (.aload_n 0, 1) := by decide +kernel
theorem d1_16 : decode method_3_code 16 = .ok (.iload_n 2, 1) := by decide +kernel
theorem d1_17 : decode method_3_code 17 = .ok (.iaload, 1) := by decide +kernel
theorem d1_18 : decode method_3_code 18 = .ok (.iastore, 1) := by decide +kernel
theorem d1_19 : decode method_3_code 19 = .ok (.aload_n 0, 1) := by decide +kernel
theorem d1_20 : decode method_3_code 20 = .ok (.iload_n 2, 1) := by decide +kernel
theorem d1_21 : decode method_3_code 21 = .ok (.iload_n 3, 1) := by decide +kernel
theorem d1_22 : decode method_3_code 22 = .ok (.iastore, 1) := by decide +kernel
theorem d1_23 : decode method_3_code 23 = .ok (.return_, 1) := by decide +kernel
set_option maxRecDepth 65536 in
set_option maxHeartbeats 40000000 in
theorem con_order (l : Launch) (Z : State) (a0 : Array Value) (hw : ∀ d ∈ tables_1, d.before a0 Z = true) (ws : List Jvm.Cond) (h0 : Heap) (n0 : Nat) (a1 : Addr) (i j : Int32) (ni nj : Nat) (x y : Int32) (us : List Value) (hi : i.toInt = ni) (hj : j.toInt = nj) (vi : us[ni]? = some (.int x)) (vj : us[nj]? = some (.int y)) (A : Arl Z h0 a1 .int us) (hn : n0 ≤ a1) :
    Con l (⟨"com/example/semblance/semblance/condition/TokenSetSharedPinLaw", "order", "([III)V"⟩ : MethodName) method_3_code 4 none ({ frames := 0, cells := 0, slots := 0, locals := 0 } : Room) ws Z #[(.ref a1), (.int i), (.int j)] h0 n0 (fun v h => v = none ∧ Keep h0 h [a1] ∧ ∃ x' y' : Int32, ((x' = x ∧ y' = y ∧ ¬ y < x) ∨ (x' = y ∧ y' = x ∧ y < x)) ∧ Arl Z h a1 .int ((us.set ni (.int x')).set nj (.int y'))) := by
  refine Con.of (plainFor_of_name pn0) ?_
  intro p e s m below meth c T X nm
  rw [show entryFrame m #[(.ref a1), (.int i), (.int j)] 4 = mkF m 0 #[.val (.ref a1), .val (.int i), .val (.int j), .unset] [] from by (first | (simp [entryFrame, mkF, argsToLocals, Value.category]; done) | rfl)]
  refine Wk.aloadN X d1_0 1 rfl rfl rfl ?_
  refine Wk.iloadN X d1_1 2 rfl rfl ?_
  refine Wk.iaload X A ni hi vi d1_2 3 rfl ?_
  refine Wk.aloadN X d1_3 4 rfl rfl rfl ?_
  refine Wk.iloadN X d1_4 5 rfl rfl ?_
  refine Wk.iaload X A nj hj vj d1_5 6 rfl ?_
  refine Wk.icmp X d1_6 23 9 (by decide) rfl ?_ ?_
  · intro hc; change ¬ y < x at hc
    exact Wk.vreturn X d1_23 (by decide) (by decide) ⟨rfl, Keep.refl _ _, x, y, Or.inl ⟨rfl, rfl, hc⟩, by rw [own_set_self vi, own_set_self vj]; exact A⟩
  · intro hc; change y < x at hc
    refine Wk.aloadN X d1_9 10 rfl rfl rfl ?_
    refine Wk.iloadN X d1_10 11 rfl rfl ?_
    refine Wk.iaload X A ni hi vi d1_11 12 rfl ?_
    refine Wk.istoreN X d1_12 13 rfl #[.val (.ref a1), .val (.int i), .val (.int j), .val (.int x)] rfl ?_
    refine Wk.aloadN X d1_13 14 rfl rfl rfl ?_
    refine Wk.iloadN X d1_14 15 rfl rfl ?_
    refine Wk.aloadN X d1_15 16 rfl rfl rfl ?_
    refine Wk.iloadN X d1_16 17 rfl rfl ?_
    refine Wk.iaload X A nj hj vj d1_17 18 rfl ?_
    refine Wk.iastore X A hn ni hi (List.getElem?_eq_some_iff.mp vi).1 d1_18 19 rfl ?_
    intro T h1 X W1
    have A1 := A.set W1
    refine Wk.aloadN X d1_19 20 rfl rfl rfl ?_
    refine Wk.iloadN X d1_20 21 rfl rfl ?_
    refine Wk.iloadN X d1_21 22 rfl rfl ?_
    refine Wk.iastore X A1 hn nj hj (by rw [List.length_set]; exact (List.getElem?_eq_some_iff.mp vj).1) d1_22 23 rfl ?_
    intro T h2 X W2
    exact Wk.vreturn X d1_23 (by decide) (by decide) ⟨rfl, ((Keep.refl _ _).wr W1 (Or.inl (List.mem_singleton.mpr rfl))).wr W2 (Or.inl (List.mem_singleton.mpr rfl)), y, x, Or.inr ⟨rfl, rfl, hc⟩, A1.set W2⟩
theorem d7_0 : decode method_4_code 0 = .ok (.iload_n 0, 1) := by decide +kernel
theorem d7_1 : decode method_4_code 1 = .ok (.iconst 1, 1) := by decide +kernel
theorem d7_2 : decode method_4_code 2 = .ok (.iand, 1) := by decide +kernel
theorem d7_3 : decode method_4_code 3 = .ok (.iload_n 0, 1) := by decide +kernel
theorem d7_4 : decode method_4_code 4 = .ok (.iconst 1, 1) := by decide +kernel
theorem d7_5 : decode method_4_code 5 = .ok (.ishr, 1) := by decide +kernel
theorem d7_6 : decode method_4_code 6 = .ok (.iconst 1, 1) := by decide +kernel
theorem d7_7 : decode method_4_code 7 = .ok (.iand, 1) := by decide +kernel
theorem d7_8 : decode method_4_code 8 = .ok (.iadd, 1) := by decide +kernel
theorem d7_9 : decode method_4_code 9 = .ok (.iload_n 0, 1) := by decide +kernel
theorem d7_10 : decode method_4_code 10 = .ok (.iconst 2, 1) := by decide +kernel
theorem d7_11 : decode method_4_code 11 = .ok (.ishr, 1) := by decide +kernel
theorem d7_12 : decode method_4_code 12 = .ok (.iconst 1, 1) := by decide +kernel
theorem d7_13 : decode method_4_code 13 = .ok (.iand, 1) := by decide +kernel
theorem d7_14 : decode method_4_code 14 = .ok (.iadd, 1) := by decide +kernel
theorem d7_15 : decode method_4_code 15 = .ok (.iload_n 0, 1) := by decide +kernel
theorem d7_16 : decode method_4_code 16 = .ok (.iconst 3, 1) := by decide +kernel
theorem d7_17 : decode method_4_code 17 = .ok (.ishr, 1) := by decide +kernel
theorem d7_18 : decode method_4_code 18 = .ok (.iconst 1, 1) := by decide +kernel
theorem d7_19 : decode method_4_code 19 = .ok (.iand, 1) := by decide +kernel
theorem d7_20 : decode method_4_code 20 = .ok (.iadd, 1) := by decide +kernel
theorem d7_21 : decode method_4_code 21 = .ok (.ireturn, 1) := by decide +kernel
set_option maxRecDepth 65536 in
set_option maxHeartbeats 40000000 in
theorem con_count (l : Launch) (Z : State) (a0 : Array Value) (hw : ∀ d ∈ tables_1, d.before a0 Z = true) (ws : List Jvm.Cond) (h0 : Heap) (n0 : Nat) (m' : Int32) :
    Con l (⟨"com/example/semblance/semblance/condition/TokenSetSharedPinLaw", "count", "(I)I"⟩ : MethodName) method_4_code 1 (some .int) ({ frames := 0, cells := 0, slots := 0, locals := 0 } : Room) ws Z #[(.int m')] h0 n0 (fun v h => v = some (.int (cntE m')) ∧ h0 = h) := by
  refine Con.of (plainFor_of_name pn0) ?_
  intro p e s m below meth c T X nm
  rw [show entryFrame m #[(.int m')] 1 = mkF m 0 #[.val (.int m')] [] from by (first | (simp [entryFrame, mkF, argsToLocals, Value.category]; done) | rfl)]
  refine Wk.iloadN X d7_0 1 rfl rfl ?_
  refine Wk.iconst X d7_1 2 rfl (1 : Int32) rfl ?_
  refine Wk.iand X d7_2 3 rfl ?_
  refine Wk.iloadN X d7_3 4 rfl rfl ?_
  refine Wk.iconst X d7_4 5 rfl (1 : Int32) rfl ?_
  refine Wk.ishr X d7_5 6 rfl ?_
  refine Wk.iconst X d7_6 7 rfl (1 : Int32) rfl ?_
  refine Wk.iand X d7_7 8 rfl ?_
  refine Wk.iadd X d7_8 9 rfl ?_
  refine Wk.iloadN X d7_9 10 rfl rfl ?_
  refine Wk.iconst X d7_10 11 rfl (2 : Int32) rfl ?_
  refine Wk.ishr X d7_11 12 rfl ?_
  refine Wk.iconst X d7_12 13 rfl (1 : Int32) rfl ?_
  refine Wk.iand X d7_13 14 rfl ?_
  refine Wk.iadd X d7_14 15 rfl ?_
  refine Wk.iloadN X d7_15 16 rfl rfl ?_
  refine Wk.iconst X d7_16 17 rfl (3 : Int32) rfl ?_
  refine Wk.ishr X d7_17 18 rfl ?_
  refine Wk.iconst X d7_18 19 rfl (1 : Int32) rfl ?_
  refine Wk.iand X d7_19 20 rfl ?_
  refine Wk.iadd X d7_20 21 rfl ?_
  exact Wk.ireturn X d7_21 (by decide) (by decide) ⟨rfl, rfl⟩
theorem d4_0 : decode method_5_code 0 = .ok (.iload_n 1, 1) := by decide +kernel
theorem d4_1 : decode method_5_code 1 = .ok (.invokestatic 17, 3) := by decide +kernel
theorem d4_4 : decode method_5_code 4 = .ok (.newarray .int, 2) := by decide +kernel
theorem d4_6 : decode method_5_code 6 = .ok (.astore_n 2, 1) := by decide +kernel
theorem d4_7 : decode method_5_code 7 = .ok (.iconst 0, 1) := by decide +kernel
theorem d4_8 : decode method_5_code 8 = .ok (.istore_n 3, 1) := by decide +kernel
theorem d4_9 : decode method_5_code 9 = .ok (.iload_n 1, 1) := by decide +kernel
theorem d4_10 : decode method_5_code 10 = .ok (.iconst 1, 1) := by decide +kernel
theorem d4_11 : decode method_5_code 11 = .ok (.iand, 1) := by decide +kernel
theorem d4_12 : decode method_5_code 12 = .ok (.ifCond .eq 13, 3) := by decide +kernel
theorem d4_15 : decode method_5_code 15 = .ok (.aload_n 2, 1) := by decide +kernel
theorem d4_16 : decode method_5_code 16 = .ok (.iload_n 3, 1) := by decide +kernel
theorem d4_17 : decode method_5_code 17 = .ok (.aload_n 0, 1) := by decide +kernel
theorem d4_18 : decode method_5_code 18 = .ok (.iconst 0, 1) := by decide +kernel
theorem d4_19 : decode method_5_code 19 = .ok (.iaload, 1) := by decide +kernel
theorem d4_20 : decode method_5_code 20 = .ok (.iastore, 1) := by decide +kernel
theorem d4_21 : decode method_5_code 21 = .ok (.iload_n 3, 1) := by decide +kernel
theorem d4_22 : decode method_5_code 22 = .ok (.iconst 1, 1) := by decide +kernel
theorem d4_23 : decode method_5_code 23 = .ok (.iadd, 1) := by decide +kernel
theorem d4_24 : decode method_5_code 24 = .ok (.istore_n 3, 1) := by decide +kernel
theorem d4_25 : decode method_5_code 25 = .ok (.iload_n 1, 1) := by decide +kernel
theorem d4_26 : decode method_5_code 26 = .ok (.iconst 2, 1) := by decide +kernel
theorem d4_27 : decode method_5_code 27 = .ok (.iand, 1) := by decide +kernel
theorem d4_28 : decode method_5_code 28 = .ok (.ifCond .eq 13, 3) := by decide +kernel
theorem d4_31 : decode method_5_code 31 = .ok (.aload_n 2, 1) := by decide +kernel
theorem d4_32 : decode method_5_code 32 = .ok (.iload_n 3, 1) := by decide +kernel
theorem d4_33 : decode method_5_code 33 = .ok (.aload_n 0, 1) := by decide +kernel
theorem d4_34 : decode method_5_code 34 = .ok (.iconst 1, 1) := by decide +kernel
theorem d4_35 : decode method_5_code 35 = .ok (.iaload, 1) := by decide +kernel
theorem d4_36 : decode method_5_code 36 = .ok (.iastore, 1) := by decide +kernel
theorem d4_37 : decode method_5_code 37 = .ok (.iload_n 3, 1) := by decide +kernel
theorem d4_38 : decode method_5_code 38 = .ok (.iconst 1, 1) := by decide +kernel
theorem d4_39 : decode method_5_code 39 = .ok (.iadd, 1) := by decide +kernel
theorem d4_40 : decode method_5_code 40 = .ok (.istore_n 3, 1) := by decide +kernel
theorem d4_41 : decode method_5_code 41 = .ok (.iload_n 1, 1) := by decide +kernel
theorem d4_42 : decode method_5_code 42 = .ok (.iconst 4, 1) := by decide +kernel
theorem d4_43 : decode method_5_code 43 = .ok (.iand, 1) := by decide +kernel
theorem d4_44 : decode method_5_code 44 = .ok (.ifCond .eq 13, 3) := by decide +kernel
theorem d4_47 : decode method_5_code 47 = .ok (.aload_n 2, 1) := by decide +kernel
theorem d4_48 : decode method_5_code 48 = .ok (.iload_n 3, 1) := by decide +kernel
theorem d4_49 : decode method_5_code 49 = .ok (.aload_n 0, 1) := by decide +kernel
theorem d4_50 : decode method_5_code 50 = .ok (.iconst 2, 1) := by decide +kernel
theorem d4_51 : decode method_5_code 51 = .ok (.iaload, 1) := by decide +kernel
theorem d4_52 : decode method_5_code 52 = .ok (.iastore, 1) := by decide +kernel
theorem d4_53 : decode method_5_code 53 = .ok (.iload_n 3, 1) := by decide +kernel
theorem d4_54 : decode method_5_code 54 = .ok (.iconst 1, 1) := by decide +kernel
theorem d4_55 : decode method_5_code 55 = .ok (.iadd, 1) := by decide +kernel
theorem d4_56 : decode method_5_code 56 = .ok (.istore_n 3, 1) := by decide +kernel
theorem d4_57 : decode method_5_code 57 = .ok (.iload_n 1, 1) := by decide +kernel
theorem d4_58 : decode method_5_code 58 = .ok (.bipush 8, 2) := by decide +kernel
theorem d4_60 : decode method_5_code 60 = .ok (.iand, 1) := by decide +kernel
theorem d4_61 : decode method_5_code 61 = .ok (.ifCond .eq 13, 3) := by decide +kernel
theorem d4_64 : decode method_5_code 64 = .ok (.aload_n 2, 1) := by decide +kernel
theorem d4_65 : decode method_5_code 65 = .ok (.iload_n 3, 1) := by decide +kernel
theorem d4_66 : decode method_5_code 66 = .ok (.aload_n 0, 1) := by decide +kernel
theorem d4_67 : decode method_5_code 67 = .ok (.iconst 3, 1) := by decide +kernel
theorem d4_68 : decode method_5_code 68 = .ok (.iaload, 1) := by decide +kernel
theorem d4_69 : decode method_5_code 69 = .ok (.iastore, 1) := by decide +kernel
theorem d4_70 : decode method_5_code 70 = .ok (.iload_n 3, 1) := by decide +kernel
theorem d4_71 : decode method_5_code 71 = .ok (.iconst 1, 1) := by decide +kernel
theorem d4_72 : decode method_5_code 72 = .ok (.iadd, 1) := by decide +kernel
theorem d4_73 : decode method_5_code 73 = .ok (.istore_n 3, 1) := by decide +kernel
theorem d4_74 : decode method_5_code 74 = .ok (.aload_n 2, 1) := by decide +kernel
theorem d4_75 : decode method_5_code 75 = .ok (.areturn, 1) := by decide +kernel
set_option maxRecDepth 65536 in
set_option maxHeartbeats 40000000 in
theorem con_pick (l : Launch) (Z : State) (a0 : Array Value) (hw : ∀ d ∈ tables_1, d.before a0 Z = true) (ws : List Jvm.Cond) (h0 : Heap) (n0 : Nat) (a1 : Addr) (m' c0 c1 c2 c3 : Int32) (hm1 : 0 ≤ m'.toInt) (hm2 : m'.toInt < 16) (A : Arl Z h0 a1 .int [.int c0, .int c1, .int c2, .int c3]) (Z0 : n0 ≤ h0.size) :
    Con l (⟨"com/example/semblance/semblance/condition/TokenSetSharedPinLaw", "pick", "([II)[I"⟩ : MethodName) method_5_code 4 (some (.array .int)) ({ frames := 1, cells := 1, slots := 4, locals := 12 } : Room) ws Z #[(.ref a1), (.int m')] h0 n0 (fun v h => ∃ r, v = some (.ref r) ∧ h0.size ≤ r ∧ Keep h0 h [] ∧ Arl Z h r .int ((pickL m' c0 c1 c2 c3).map Value.int)) := by
  refine Con.of (plainFor_of_name pn0) ?_
  intro p e s m below meth c T X nm
  rw [show entryFrame m #[(.ref a1), (.int m')] 4 = mkF m 0 #[.val (.ref a1), .val (.int m'), .unset, .unset] [] from by (first | (simp [entryFrame, mkF, argsToLocals, Value.category]; done) | rfl)]
  refine Wk.iloadN X d4_0 1 rfl rfl ?_
  refine Wk.callS X (t8 hw) (t9 hw) (t3 hw) (t10 hw) (con_count l Z a0 hw [] h0 n0 m') (by decide) pd0 [(.int m')] [] rfl rfl rfl rfl 0 (Nat.le_of_eq rfl) (by decide) (by decide) (by decide) (by decide) 0 0 rfl rfl d4_1 4 rfl ?_
  rintro _ T _ X ⟨rfl, rfl⟩
  show Wk p.tables e below _ (T.setTop (mkF m 4 #[.val (.ref a1), .val (.int m'), .unset, .unset] [(.int (cntE m'))]))
  refine Wk.newarray (aty := .int) X (t0 hw) d4_4 6 rfl (cntN m') (own_cnt m' hm1 hm2) 4 (own_le4 m') (by decide) (by decide) (by decide) ?_
  intro T h1 r gr X E1 R0
  change Arl Z h1 r .int (List.replicate (cntN m') (.int 0)) at R0
  have hne : a1 ≠ r := ne_new A.lt gr
  have B0 := A.ext E1
  have K0 : Keep h0 h1 [] := (Keep.refl _ _).ext E1
  have hr : n0 ≤ r := by omega
  refine Wk.astoreN X d4_6 7 rfl #[.val (.ref a1), .val (.int m'), .val (.ref r), .unset] rfl rfl ?_
  refine Wk.iconst X d4_7 8 rfl (0 : Int32) rfl ?_
  refine Wk.istoreN X d4_8 9 rfl #[.val (.ref a1), .val (.int m'), .val (.ref r), .val (.int (0 : Int32))] rfl ?_
  refine Wk.iloadN X d4_9 10 rfl rfl ?_
  refine Wk.iconst X d4_10 11 rfl (1 : Int32) rfl ?_
  refine Wk.iand X d4_11 12 rfl ?_
  refine Wk.ifc X d4_12 25 15 (by decide) rfl ?_ ?_
  · intro b0; change (m' &&& (1 : Int32)) = (0 : Int32) at b0
    refine Wk.iloadN X d4_25 26 rfl rfl ?_
    refine Wk.iconst X d4_26 27 rfl (2 : Int32) rfl ?_
    refine Wk.iand X d4_27 28 rfl ?_
    refine Wk.ifc X d4_28 41 31 (by decide) rfl ?_ ?_
    · intro b1; change (m' &&& (2 : Int32)) = (0 : Int32) at b1
      refine Wk.iloadN X d4_41 42 rfl rfl ?_
      refine Wk.iconst X d4_42 43 rfl (4 : Int32) rfl ?_
      refine Wk.iand X d4_43 44 rfl ?_
      refine Wk.ifc X d4_44 57 47 (by decide) rfl ?_ ?_
      · intro b2; change (m' &&& (4 : Int32)) = (0 : Int32) at b2
        refine Wk.iloadN X d4_57 58 rfl rfl ?_
        refine Wk.bipush X d4_58 60 rfl (8 : Int32) rfl ?_
        refine Wk.iand X d4_60 61 rfl ?_
        refine Wk.ifc X d4_61 74 64 (by decide) rfl ?_ ?_
        · intro b3; change (m' &&& (8 : Int32)) = (0 : Int32) at b3
          refine Wk.aloadN X d4_74 75 rfl rfl rfl ?_
          exact Wk.areturn X d4_75 (by decide) (by decide) rfl rfl rfl ⟨r, rfl, by omega, K0, by have q := R0; simpa [cntN, pickL, b0, b1, b2, b3] using q⟩
        · intro b3; change ¬ (m' &&& (8 : Int32)) = (0 : Int32) at b3
          refine Wk.aloadN X d4_64 65 rfl rfl rfl ?_
          refine Wk.iloadN X d4_65 66 rfl rfl ?_
          refine Wk.aloadN X d4_66 67 rfl rfl rfl ?_
          refine Wk.iconst X d4_67 68 rfl (3 : Int32) rfl ?_
          refine Wk.iaload X B0 3 rfl rfl d4_68 69 rfl ?_
          refine Wk.iastore X R0 hr 0 (by decide) (by simp [cntN, b0, b1, b2, b3]; try omega) d4_69 70 rfl ?_
          intro T h2 X W1
          have B1 := B0.other W1 hne
          have R1 := R0.set W1
          have K1 := K0.wr W1 (Or.inr (by omega))
          refine Wk.iloadN X d4_70 71 rfl rfl ?_
          refine Wk.iconst X d4_71 72 rfl (1 : Int32) rfl ?_
          refine Wk.iadd X d4_72 73 rfl ?_
          refine Wk.istoreN X d4_73 74 rfl #[.val (.ref a1), .val (.int m'), .val (.ref r), .val (.int ((0 : Int32) + (1 : Int32)))] rfl ?_
          refine Wk.aloadN X d4_74 75 rfl rfl rfl ?_
          exact Wk.areturn X d4_75 (by decide) (by decide) rfl rfl rfl ⟨r, rfl, by omega, K1, by have q := R1; simpa [cntN, pickL, b0, b1, b2, b3] using q⟩
      · intro b2; change ¬ (m' &&& (4 : Int32)) = (0 : Int32) at b2
        refine Wk.aloadN X d4_47 48 rfl rfl rfl ?_
        refine Wk.iloadN X d4_48 49 rfl rfl ?_
        refine Wk.aloadN X d4_49 50 rfl rfl rfl ?_
        refine Wk.iconst X d4_50 51 rfl (2 : Int32) rfl ?_
        refine Wk.iaload X B0 2 rfl rfl d4_51 52 rfl ?_
        refine Wk.iastore X R0 hr 0 (by decide) (by simp [cntN, b0, b1, b2]; try omega) d4_52 53 rfl ?_
        intro T h2 X W1
        have B1 := B0.other W1 hne
        have R1 := R0.set W1
        have K1 := K0.wr W1 (Or.inr (by omega))
        refine Wk.iloadN X d4_53 54 rfl rfl ?_
        refine Wk.iconst X d4_54 55 rfl (1 : Int32) rfl ?_
        refine Wk.iadd X d4_55 56 rfl ?_
        refine Wk.istoreN X d4_56 57 rfl #[.val (.ref a1), .val (.int m'), .val (.ref r), .val (.int ((0 : Int32) + (1 : Int32)))] rfl ?_
        refine Wk.iloadN X d4_57 58 rfl rfl ?_
        refine Wk.bipush X d4_58 60 rfl (8 : Int32) rfl ?_
        refine Wk.iand X d4_60 61 rfl ?_
        refine Wk.ifc X d4_61 74 64 (by decide) rfl ?_ ?_
        · intro b3; change (m' &&& (8 : Int32)) = (0 : Int32) at b3
          refine Wk.aloadN X d4_74 75 rfl rfl rfl ?_
          exact Wk.areturn X d4_75 (by decide) (by decide) rfl rfl rfl ⟨r, rfl, by omega, K1, by have q := R1; simpa [cntN, pickL, b0, b1, b2, b3] using q⟩
        · intro b3; change ¬ (m' &&& (8 : Int32)) = (0 : Int32) at b3
          refine Wk.aloadN X d4_64 65 rfl rfl rfl ?_
          refine Wk.iloadN X d4_65 66 rfl rfl ?_
          refine Wk.aloadN X d4_66 67 rfl rfl rfl ?_
          refine Wk.iconst X d4_67 68 rfl (3 : Int32) rfl ?_
          refine Wk.iaload X B1 3 rfl rfl d4_68 69 rfl ?_
          refine Wk.iastore X R1 hr 1 (by decide) (by simp [cntN, b0, b1, b2, b3]; try omega) d4_69 70 rfl ?_
          intro T h3 X W2
          have B2 := B1.other W2 hne
          have R2 := R1.set W2
          have K2 := K1.wr W2 (Or.inr (by omega))
          refine Wk.iloadN X d4_70 71 rfl rfl ?_
          refine Wk.iconst X d4_71 72 rfl (1 : Int32) rfl ?_
          refine Wk.iadd X d4_72 73 rfl ?_
          refine Wk.istoreN X d4_73 74 rfl #[.val (.ref a1), .val (.int m'), .val (.ref r), .val (.int (((0 : Int32) + (1 : Int32)) + (1 : Int32)))] rfl ?_
          refine Wk.aloadN X d4_74 75 rfl rfl rfl ?_
          exact Wk.areturn X d4_75 (by decide) (by decide) rfl rfl rfl ⟨r, rfl, by omega, K2, by have q := R2; simpa [cntN, pickL, b0, b1, b2, b3] using q⟩
    · intro b1; change ¬ (m' &&& (2 : Int32)) = (0 : Int32) at b1
      refine Wk.aloadN X d4_31 32 rfl rfl rfl ?_
      refine Wk.iloadN X d4_32 33 rfl rfl ?_
      refine Wk.aloadN X d4_33 34 rfl rfl rfl ?_
      refine Wk.iconst X d4_34 35 rfl (1 : Int32) rfl ?_
      refine Wk.iaload X B0 1 rfl rfl d4_35 36 rfl ?_
      refine Wk.iastore X R0 hr 0 (by decide) (by simp [cntN, b0, b1]; try omega) d4_36 37 rfl ?_
      intro T h2 X W1
      have B1 := B0.other W1 hne
      have R1 := R0.set W1
      have K1 := K0.wr W1 (Or.inr (by omega))
      refine Wk.iloadN X d4_37 38 rfl rfl ?_
      refine Wk.iconst X d4_38 39 rfl (1 : Int32) rfl ?_
      refine Wk.iadd X d4_39 40 rfl ?_
      refine Wk.istoreN X d4_40 41 rfl #[.val (.ref a1), .val (.int m'), .val (.ref r), .val (.int ((0 : Int32) + (1 : Int32)))] rfl ?_
      refine Wk.iloadN X d4_41 42 rfl rfl ?_
      refine Wk.iconst X d4_42 43 rfl (4 : Int32) rfl ?_
      refine Wk.iand X d4_43 44 rfl ?_
      refine Wk.ifc X d4_44 57 47 (by decide) rfl ?_ ?_
      · intro b2; change (m' &&& (4 : Int32)) = (0 : Int32) at b2
        refine Wk.iloadN X d4_57 58 rfl rfl ?_
        refine Wk.bipush X d4_58 60 rfl (8 : Int32) rfl ?_
        refine Wk.iand X d4_60 61 rfl ?_
        refine Wk.ifc X d4_61 74 64 (by decide) rfl ?_ ?_
        · intro b3; change (m' &&& (8 : Int32)) = (0 : Int32) at b3
          refine Wk.aloadN X d4_74 75 rfl rfl rfl ?_
          exact Wk.areturn X d4_75 (by decide) (by decide) rfl rfl rfl ⟨r, rfl, by omega, K1, by have q := R1; simpa [cntN, pickL, b0, b1, b2, b3] using q⟩
        · intro b3; change ¬ (m' &&& (8 : Int32)) = (0 : Int32) at b3
          refine Wk.aloadN X d4_64 65 rfl rfl rfl ?_
          refine Wk.iloadN X d4_65 66 rfl rfl ?_
          refine Wk.aloadN X d4_66 67 rfl rfl rfl ?_
          refine Wk.iconst X d4_67 68 rfl (3 : Int32) rfl ?_
          refine Wk.iaload X B1 3 rfl rfl d4_68 69 rfl ?_
          refine Wk.iastore X R1 hr 1 (by decide) (by simp [cntN, b0, b1, b2, b3]; try omega) d4_69 70 rfl ?_
          intro T h3 X W2
          have B2 := B1.other W2 hne
          have R2 := R1.set W2
          have K2 := K1.wr W2 (Or.inr (by omega))
          refine Wk.iloadN X d4_70 71 rfl rfl ?_
          refine Wk.iconst X d4_71 72 rfl (1 : Int32) rfl ?_
          refine Wk.iadd X d4_72 73 rfl ?_
          refine Wk.istoreN X d4_73 74 rfl #[.val (.ref a1), .val (.int m'), .val (.ref r), .val (.int (((0 : Int32) + (1 : Int32)) + (1 : Int32)))] rfl ?_
          refine Wk.aloadN X d4_74 75 rfl rfl rfl ?_
          exact Wk.areturn X d4_75 (by decide) (by decide) rfl rfl rfl ⟨r, rfl, by omega, K2, by have q := R2; simpa [cntN, pickL, b0, b1, b2, b3] using q⟩
      · intro b2; change ¬ (m' &&& (4 : Int32)) = (0 : Int32) at b2
        refine Wk.aloadN X d4_47 48 rfl rfl rfl ?_
        refine Wk.iloadN X d4_48 49 rfl rfl ?_
        refine Wk.aloadN X d4_49 50 rfl rfl rfl ?_
        refine Wk.iconst X d4_50 51 rfl (2 : Int32) rfl ?_
        refine Wk.iaload X B1 2 rfl rfl d4_51 52 rfl ?_
        refine Wk.iastore X R1 hr 1 (by decide) (by simp [cntN, b0, b1, b2]; try omega) d4_52 53 rfl ?_
        intro T h3 X W2
        have B2 := B1.other W2 hne
        have R2 := R1.set W2
        have K2 := K1.wr W2 (Or.inr (by omega))
        refine Wk.iloadN X d4_53 54 rfl rfl ?_
        refine Wk.iconst X d4_54 55 rfl (1 : Int32) rfl ?_
        refine Wk.iadd X d4_55 56 rfl ?_
        refine Wk.istoreN X d4_56 57 rfl #[.val (.ref a1), .val (.int m'), .val (.ref r), .val (.int (((0 : Int32) + (1 : Int32)) + (1 : Int32)))] rfl ?_
        refine Wk.iloadN X d4_57 58 rfl rfl ?_
        refine Wk.bipush X d4_58 60 rfl (8 : Int32) rfl ?_
        refine Wk.iand X d4_60 61 rfl ?_
        refine Wk.ifc X d4_61 74 64 (by decide) rfl ?_ ?_
        · intro b3; change (m' &&& (8 : Int32)) = (0 : Int32) at b3
          refine Wk.aloadN X d4_74 75 rfl rfl rfl ?_
          exact Wk.areturn X d4_75 (by decide) (by decide) rfl rfl rfl ⟨r, rfl, by omega, K2, by have q := R2; simpa [cntN, pickL, b0, b1, b2, b3] using q⟩
        · intro b3; change ¬ (m' &&& (8 : Int32)) = (0 : Int32) at b3
          refine Wk.aloadN X d4_64 65 rfl rfl rfl ?_
          refine Wk.iloadN X d4_65 66 rfl rfl ?_
          refine Wk.aloadN X d4_66 67 rfl rfl rfl ?_
          refine Wk.iconst X d4_67 68 rfl (3 : Int32) rfl ?_
          refine Wk.iaload X B2 3 rfl rfl d4_68 69 rfl ?_
          refine Wk.iastore X R2 hr 2 (by decide) (by simp [cntN, b0, b1, b2, b3]; try omega) d4_69 70 rfl ?_
          intro T h4 X W3
          have B3 := B2.other W3 hne
          have R3 := R2.set W3
          have K3 := K2.wr W3 (Or.inr (by omega))
          refine Wk.iloadN X d4_70 71 rfl rfl ?_
          refine Wk.iconst X d4_71 72 rfl (1 : Int32) rfl ?_
          refine Wk.iadd X d4_72 73 rfl ?_
          refine Wk.istoreN X d4_73 74 rfl #[.val (.ref a1), .val (.int m'), .val (.ref r), .val (.int ((((0 : Int32) + (1 : Int32)) + (1 : Int32)) + (1 : Int32)))] rfl ?_
          refine Wk.aloadN X d4_74 75 rfl rfl rfl ?_
          exact Wk.areturn X d4_75 (by decide) (by decide) rfl rfl rfl ⟨r, rfl, by omega, K3, by have q := R3; simpa [cntN, pickL, b0, b1, b2, b3] using q⟩
  · intro b0; change ¬ (m' &&& (1 : Int32)) = (0 : Int32) at b0
    refine Wk.aloadN X d4_15 16 rfl rfl rfl ?_
    refine Wk.iloadN X d4_16 17 rfl rfl ?_
    refine Wk.aloadN X d4_17 18 rfl rfl rfl ?_
    refine Wk.iconst X d4_18 19 rfl (0 : Int32) rfl ?_
    refine Wk.iaload X B0 0 rfl rfl d4_19 20 rfl ?_
    refine Wk.iastore X R0 hr 0 (by decide) (by simp [cntN, b0]; try omega) d4_20 21 rfl ?_
    intro T h2 X W1
    have B1 := B0.other W1 hne
    have R1 := R0.set W1
    have K1 := K0.wr W1 (Or.inr (by omega))
    refine Wk.iloadN X d4_21 22 rfl rfl ?_
    refine Wk.iconst X d4_22 23 rfl (1 : Int32) rfl ?_
    refine Wk.iadd X d4_23 24 rfl ?_
    refine Wk.istoreN X d4_24 25 rfl #[.val (.ref a1), .val (.int m'), .val (.ref r), .val (.int ((0 : Int32) + (1 : Int32)))] rfl ?_
    refine Wk.iloadN X d4_25 26 rfl rfl ?_
    refine Wk.iconst X d4_26 27 rfl (2 : Int32) rfl ?_
    refine Wk.iand X d4_27 28 rfl ?_
    refine Wk.ifc X d4_28 41 31 (by decide) rfl ?_ ?_
    · intro b1; change (m' &&& (2 : Int32)) = (0 : Int32) at b1
      refine Wk.iloadN X d4_41 42 rfl rfl ?_
      refine Wk.iconst X d4_42 43 rfl (4 : Int32) rfl ?_
      refine Wk.iand X d4_43 44 rfl ?_
      refine Wk.ifc X d4_44 57 47 (by decide) rfl ?_ ?_
      · intro b2; change (m' &&& (4 : Int32)) = (0 : Int32) at b2
        refine Wk.iloadN X d4_57 58 rfl rfl ?_
        refine Wk.bipush X d4_58 60 rfl (8 : Int32) rfl ?_
        refine Wk.iand X d4_60 61 rfl ?_
        refine Wk.ifc X d4_61 74 64 (by decide) rfl ?_ ?_
        · intro b3; change (m' &&& (8 : Int32)) = (0 : Int32) at b3
          refine Wk.aloadN X d4_74 75 rfl rfl rfl ?_
          exact Wk.areturn X d4_75 (by decide) (by decide) rfl rfl rfl ⟨r, rfl, by omega, K1, by have q := R1; simpa [cntN, pickL, b0, b1, b2, b3] using q⟩
        · intro b3; change ¬ (m' &&& (8 : Int32)) = (0 : Int32) at b3
          refine Wk.aloadN X d4_64 65 rfl rfl rfl ?_
          refine Wk.iloadN X d4_65 66 rfl rfl ?_
          refine Wk.aloadN X d4_66 67 rfl rfl rfl ?_
          refine Wk.iconst X d4_67 68 rfl (3 : Int32) rfl ?_
          refine Wk.iaload X B1 3 rfl rfl d4_68 69 rfl ?_
          refine Wk.iastore X R1 hr 1 (by decide) (by simp [cntN, b0, b1, b2, b3]; try omega) d4_69 70 rfl ?_
          intro T h3 X W2
          have B2 := B1.other W2 hne
          have R2 := R1.set W2
          have K2 := K1.wr W2 (Or.inr (by omega))
          refine Wk.iloadN X d4_70 71 rfl rfl ?_
          refine Wk.iconst X d4_71 72 rfl (1 : Int32) rfl ?_
          refine Wk.iadd X d4_72 73 rfl ?_
          refine Wk.istoreN X d4_73 74 rfl #[.val (.ref a1), .val (.int m'), .val (.ref r), .val (.int (((0 : Int32) + (1 : Int32)) + (1 : Int32)))] rfl ?_
          refine Wk.aloadN X d4_74 75 rfl rfl rfl ?_
          exact Wk.areturn X d4_75 (by decide) (by decide) rfl rfl rfl ⟨r, rfl, by omega, K2, by have q := R2; simpa [cntN, pickL, b0, b1, b2, b3] using q⟩
      · intro b2; change ¬ (m' &&& (4 : Int32)) = (0 : Int32) at b2
        refine Wk.aloadN X d4_47 48 rfl rfl rfl ?_
        refine Wk.iloadN X d4_48 49 rfl rfl ?_
        refine Wk.aloadN X d4_49 50 rfl rfl rfl ?_
        refine Wk.iconst X d4_50 51 rfl (2 : Int32) rfl ?_
        refine Wk.iaload X B1 2 rfl rfl d4_51 52 rfl ?_
        refine Wk.iastore X R1 hr 1 (by decide) (by simp [cntN, b0, b1, b2]; try omega) d4_52 53 rfl ?_
        intro T h3 X W2
        have B2 := B1.other W2 hne
        have R2 := R1.set W2
        have K2 := K1.wr W2 (Or.inr (by omega))
        refine Wk.iloadN X d4_53 54 rfl rfl ?_
        refine Wk.iconst X d4_54 55 rfl (1 : Int32) rfl ?_
        refine Wk.iadd X d4_55 56 rfl ?_
        refine Wk.istoreN X d4_56 57 rfl #[.val (.ref a1), .val (.int m'), .val (.ref r), .val (.int (((0 : Int32) + (1 : Int32)) + (1 : Int32)))] rfl ?_
        refine Wk.iloadN X d4_57 58 rfl rfl ?_
        refine Wk.bipush X d4_58 60 rfl (8 : Int32) rfl ?_
        refine Wk.iand X d4_60 61 rfl ?_
        refine Wk.ifc X d4_61 74 64 (by decide) rfl ?_ ?_
        · intro b3; change (m' &&& (8 : Int32)) = (0 : Int32) at b3
          refine Wk.aloadN X d4_74 75 rfl rfl rfl ?_
          exact Wk.areturn X d4_75 (by decide) (by decide) rfl rfl rfl ⟨r, rfl, by omega, K2, by have q := R2; simpa [cntN, pickL, b0, b1, b2, b3] using q⟩
        · intro b3; change ¬ (m' &&& (8 : Int32)) = (0 : Int32) at b3
          refine Wk.aloadN X d4_64 65 rfl rfl rfl ?_
          refine Wk.iloadN X d4_65 66 rfl rfl ?_
          refine Wk.aloadN X d4_66 67 rfl rfl rfl ?_
          refine Wk.iconst X d4_67 68 rfl (3 : Int32) rfl ?_
          refine Wk.iaload X B2 3 rfl rfl d4_68 69 rfl ?_
          refine Wk.iastore X R2 hr 2 (by decide) (by simp [cntN, b0, b1, b2, b3]; try omega) d4_69 70 rfl ?_
          intro T h4 X W3
          have B3 := B2.other W3 hne
          have R3 := R2.set W3
          have K3 := K2.wr W3 (Or.inr (by omega))
          refine Wk.iloadN X d4_70 71 rfl rfl ?_
          refine Wk.iconst X d4_71 72 rfl (1 : Int32) rfl ?_
          refine Wk.iadd X d4_72 73 rfl ?_
          refine Wk.istoreN X d4_73 74 rfl #[.val (.ref a1), .val (.int m'), .val (.ref r), .val (.int ((((0 : Int32) + (1 : Int32)) + (1 : Int32)) + (1 : Int32)))] rfl ?_
          refine Wk.aloadN X d4_74 75 rfl rfl rfl ?_
          exact Wk.areturn X d4_75 (by decide) (by decide) rfl rfl rfl ⟨r, rfl, by omega, K3, by have q := R3; simpa [cntN, pickL, b0, b1, b2, b3] using q⟩
    · intro b1; change ¬ (m' &&& (2 : Int32)) = (0 : Int32) at b1
      refine Wk.aloadN X d4_31 32 rfl rfl rfl ?_
      refine Wk.iloadN X d4_32 33 rfl rfl ?_
      refine Wk.aloadN X d4_33 34 rfl rfl rfl ?_
      refine Wk.iconst X d4_34 35 rfl (1 : Int32) rfl ?_
      refine Wk.iaload X B1 1 rfl rfl d4_35 36 rfl ?_
      refine Wk.iastore X R1 hr 1 (by decide) (by simp [cntN, b0, b1]; try omega) d4_36 37 rfl ?_
      intro T h3 X W2
      have B2 := B1.other W2 hne
      have R2 := R1.set W2
      have K2 := K1.wr W2 (Or.inr (by omega))
      refine Wk.iloadN X d4_37 38 rfl rfl ?_
      refine Wk.iconst X d4_38 39 rfl (1 : Int32) rfl ?_
      refine Wk.iadd X d4_39 40 rfl ?_
      refine Wk.istoreN X d4_40 41 rfl #[.val (.ref a1), .val (.int m'), .val (.ref r), .val (.int (((0 : Int32) + (1 : Int32)) + (1 : Int32)))] rfl ?_
      refine Wk.iloadN X d4_41 42 rfl rfl ?_
      refine Wk.iconst X d4_42 43 rfl (4 : Int32) rfl ?_
      refine Wk.iand X d4_43 44 rfl ?_
      refine Wk.ifc X d4_44 57 47 (by decide) rfl ?_ ?_
      · intro b2; change (m' &&& (4 : Int32)) = (0 : Int32) at b2
        refine Wk.iloadN X d4_57 58 rfl rfl ?_
        refine Wk.bipush X d4_58 60 rfl (8 : Int32) rfl ?_
        refine Wk.iand X d4_60 61 rfl ?_
        refine Wk.ifc X d4_61 74 64 (by decide) rfl ?_ ?_
        · intro b3; change (m' &&& (8 : Int32)) = (0 : Int32) at b3
          refine Wk.aloadN X d4_74 75 rfl rfl rfl ?_
          exact Wk.areturn X d4_75 (by decide) (by decide) rfl rfl rfl ⟨r, rfl, by omega, K2, by have q := R2; simpa [cntN, pickL, b0, b1, b2, b3] using q⟩
        · intro b3; change ¬ (m' &&& (8 : Int32)) = (0 : Int32) at b3
          refine Wk.aloadN X d4_64 65 rfl rfl rfl ?_
          refine Wk.iloadN X d4_65 66 rfl rfl ?_
          refine Wk.aloadN X d4_66 67 rfl rfl rfl ?_
          refine Wk.iconst X d4_67 68 rfl (3 : Int32) rfl ?_
          refine Wk.iaload X B2 3 rfl rfl d4_68 69 rfl ?_
          refine Wk.iastore X R2 hr 2 (by decide) (by simp [cntN, b0, b1, b2, b3]; try omega) d4_69 70 rfl ?_
          intro T h4 X W3
          have B3 := B2.other W3 hne
          have R3 := R2.set W3
          have K3 := K2.wr W3 (Or.inr (by omega))
          refine Wk.iloadN X d4_70 71 rfl rfl ?_
          refine Wk.iconst X d4_71 72 rfl (1 : Int32) rfl ?_
          refine Wk.iadd X d4_72 73 rfl ?_
          refine Wk.istoreN X d4_73 74 rfl #[.val (.ref a1), .val (.int m'), .val (.ref r), .val (.int ((((0 : Int32) + (1 : Int32)) + (1 : Int32)) + (1 : Int32)))] rfl ?_
          refine Wk.aloadN X d4_74 75 rfl rfl rfl ?_
          exact Wk.areturn X d4_75 (by decide) (by decide) rfl rfl rfl ⟨r, rfl, by omega, K3, by have q := R3; simpa [cntN, pickL, b0, b1, b2, b3] using q⟩
      · intro b2; change ¬ (m' &&& (4 : Int32)) = (0 : Int32) at b2
        refine Wk.aloadN X d4_47 48 rfl rfl rfl ?_
        refine Wk.iloadN X d4_48 49 rfl rfl ?_
        refine Wk.aloadN X d4_49 50 rfl rfl rfl ?_
        refine Wk.iconst X d4_50 51 rfl (2 : Int32) rfl ?_
        refine Wk.iaload X B2 2 rfl rfl d4_51 52 rfl ?_
        refine Wk.iastore X R2 hr 2 (by decide) (by simp [cntN, b0, b1, b2]; try omega) d4_52 53 rfl ?_
        intro T h4 X W3
        have B3 := B2.other W3 hne
        have R3 := R2.set W3
        have K3 := K2.wr W3 (Or.inr (by omega))
        refine Wk.iloadN X d4_53 54 rfl rfl ?_
        refine Wk.iconst X d4_54 55 rfl (1 : Int32) rfl ?_
        refine Wk.iadd X d4_55 56 rfl ?_
        refine Wk.istoreN X d4_56 57 rfl #[.val (.ref a1), .val (.int m'), .val (.ref r), .val (.int ((((0 : Int32) + (1 : Int32)) + (1 : Int32)) + (1 : Int32)))] rfl ?_
        refine Wk.iloadN X d4_57 58 rfl rfl ?_
        refine Wk.bipush X d4_58 60 rfl (8 : Int32) rfl ?_
        refine Wk.iand X d4_60 61 rfl ?_
        refine Wk.ifc X d4_61 74 64 (by decide) rfl ?_ ?_
        · intro b3; change (m' &&& (8 : Int32)) = (0 : Int32) at b3
          refine Wk.aloadN X d4_74 75 rfl rfl rfl ?_
          exact Wk.areturn X d4_75 (by decide) (by decide) rfl rfl rfl ⟨r, rfl, by omega, K3, by have q := R3; simpa [cntN, pickL, b0, b1, b2, b3] using q⟩
        · intro b3; change ¬ (m' &&& (8 : Int32)) = (0 : Int32) at b3
          refine Wk.aloadN X d4_64 65 rfl rfl rfl ?_
          refine Wk.iloadN X d4_65 66 rfl rfl ?_
          refine Wk.aloadN X d4_66 67 rfl rfl rfl ?_
          refine Wk.iconst X d4_67 68 rfl (3 : Int32) rfl ?_
          refine Wk.iaload X B3 3 rfl rfl d4_68 69 rfl ?_
          refine Wk.iastore X R3 hr 3 (by decide) (by simp [cntN, b0, b1, b2, b3]; try omega) d4_69 70 rfl ?_
          intro T h5 X W4
          have B4 := B3.other W4 hne
          have R4 := R3.set W4
          have K4 := K3.wr W4 (Or.inr (by omega))
          refine Wk.iloadN X d4_70 71 rfl rfl ?_
          refine Wk.iconst X d4_71 72 rfl (1 : Int32) rfl ?_
          refine Wk.iadd X d4_72 73 rfl ?_
          refine Wk.istoreN X d4_73 74 rfl #[.val (.ref a1), .val (.int m'), .val (.ref r), .val (.int (((((0 : Int32) + (1 : Int32)) + (1 : Int32)) + (1 : Int32)) + (1 : Int32)))] rfl ?_
          refine Wk.aloadN X d4_74 75 rfl rfl rfl ?_
          exact Wk.areturn X d4_75 (by decide) (by decide) rfl rfl rfl ⟨r, rfl, by omega, K4, by have q := R4; simpa [cntN, pickL, b0, b1, b2, b3] using q⟩
theorem d10_0 : decode prog_43_method_6_code 0 = .ok (.iconst 0, 1) := by decide +kernel
theorem d10_1 : decode prog_43_method_6_code 1 = .ok (.istore_n 2, 1) := by decide +kernel
theorem d10_2 : decode prog_43_method_6_code 2 = .ok (.iconst 0, 1) := by decide +kernel
theorem d10_3 : decode prog_43_method_6_code 3 = .ok (.istore_n 3, 1) := by decide +kernel
theorem d10_4 : decode prog_43_method_6_code 4 = .ok (.iconst 0, 1) := by decide +kernel
theorem d10_5 : decode prog_43_method_6_code 5 = .ok (.istore 4, 2) := by decide +kernel
theorem d10_7 : decode prog_43_method_6_code 7 = .ok (.iload_n 3, 1) := by decide +kernel
theorem d10_8 : decode prog_43_method_6_code 8 = .ok (.aload_n 0, 1) := by decide +kernel
theorem d10_9 : decode prog_43_method_6_code 9 = .ok (.arraylength, 1) := by decide +kernel
theorem d10_10 : decode prog_43_method_6_code 10 = .ok (.if_icmp .ge 54, 3) := by decide +kernel
theorem d10_13 : decode prog_43_method_6_code 13 = .ok (.iload 4, 2) := by decide +kernel
theorem d10_15 : decode prog_43_method_6_code 15 = .ok (.aload_n 1, 1) := by decide +kernel
theorem d10_16 : decode prog_43_method_6_code 16 = .ok (.arraylength, 1) := by decide +kernel
theorem d10_17 : decode prog_43_method_6_code 17 = .ok (.if_icmp .ge 47, 3) := by decide +kernel
theorem d10_20 : decode prog_43_method_6_code 20 = .ok (.aload_n 0, 1) := by decide +kernel
theorem d10_21 : decode prog_43_method_6_code 21 = .ok (.iload_n 3, 1) := by decide +kernel
theorem d10_22 : decode prog_43_method_6_code 22 = .ok (.iaload, 1) := by decide +kernel
theorem d10_23 : decode prog_43_method_6_code 23 = .ok (.aload_n 1, 1) := by decide +kernel
theorem d10_24 : decode prog_43_method_6_code 24 = .ok (.iload 4, 2) := by decide +kernel
theorem d10_26 : decode prog_43_method_6_code 26 = .ok (.iaload, 1) := by decide +kernel
theorem d10_27 : decode prog_43_method_6_code 27 = .ok (.if_icmp .ge 9, 3) := by decide +kernel
theorem d10_30 : decode prog_43_method_6_code 30 = .ok (.iinc 3 1, 3) := by decide +kernel
theorem d10_33 : decode prog_43_method_6_code 33 = .ok (.goto (-26), 3) := by decide +kernel
theorem d10_36 : decode prog_43_method_6_code 36 = .ok (.aload_n 0, 1) := by decide +kernel
theorem d10_37 : decode prog_43_method_6_code 37 = .ok (.iload_n 3, 1) := by decide +kernel
theorem d10_38 : decode prog_43_method_6_code 38 = .ok (.iaload, 1) := by decide +kernel
theorem d10_39 : decode prog_43_method_6_code 39 = .ok (.aload_n 1, 1) := by decide +kernel
theorem d10_40 : decode prog_43_method_6_code 40 = .ok (.iload 4, 2) := by decide +kernel
theorem d10_42 : decode prog_43_method_6_code 42 = .ok (.iaload, 1) := by decide +kernel
theorem d10_43 : decode prog_43_method_6_code 43 = .ok (.if_icmp .le 9, 3) := by decide +kernel
theorem d10_46 : decode prog_43_method_6_code 46 = .ok (.iinc 4 1, 3) := by decide +kernel
theorem d10_49 : decode prog_43_method_6_code 49 = .ok (.goto (-42), 3) := by decide +kernel
theorem d10_52 : decode prog_43_method_6_code 52 = .ok (.iinc 2 1, 3) := by decide +kernel
theorem d10_55 : decode prog_43_method_6_code 55 = .ok (.iinc 3 1, 3) := by decide +kernel
theorem d10_58 : decode prog_43_method_6_code 58 = .ok (.iinc 4 1, 3) := by decide +kernel
theorem d10_61 : decode prog_43_method_6_code 61 = .ok (.goto (-54), 3) := by decide +kernel
theorem d10_64 : decode prog_43_method_6_code 64 = .ok (.iload_n 2, 1) := by decide +kernel
theorem d10_65 : decode prog_43_method_6_code 65 = .ok (.ireturn, 1) := by decide +kernel
set_option maxRecDepth 65536 in
set_option maxHeartbeats 40000000 in
theorem con_shared (l : Launch) (Z : State) (a0 : Array Value) (hw : ∀ d ∈ tables_1, d.before a0 Z = true) (ws : List Jvm.Cond) (h0 : Heap) (n0 : Nat) (a1 a2 : Addr) (xs ys : List Int32) (A : Arl Z h0 a1 .int (xs.map Value.int)) (B : Arl Z h0 a2 .int (ys.map Value.int)) :
    Con l (⟨"com/example/semblance/semblance/condition/TokenSet", "shared", "([I[I)I"⟩ : MethodName) prog_43_method_6_code 5 (some .int) ({ frames := 0, cells := 0, slots := 0, locals := 0 } : Room) ws Z #[(.ref a1), (.ref a2)] h0 n0 (fun v h => v = some (.int (Int32.ofNat (mrg xs ys))) ∧ h0 = h) := by
  refine Con.of (plainFor_of_name pn1) ?_
  intro p e s m below meth c T X nm
  rw [show entryFrame m #[(.ref a1), (.ref a2)] 5 = mkF m 0 #[.val (.ref a1), .val (.ref a2), .unset, .unset, .unset] [] from by (first | (simp [entryFrame, mkF, argsToLocals, Value.category]; done) | rfl)]
  refine Wk.iconst X d10_0 1 rfl (0 : Int32) rfl ?_
  refine Wk.istoreN X d10_1 2 rfl #[.val (.ref a1), .val (.ref a2), .val (.int (0 : Int32)), .unset, .unset] rfl ?_
  refine Wk.iconst X d10_2 3 rfl (0 : Int32) rfl ?_
  refine Wk.istoreN X d10_3 4 rfl #[.val (.ref a1), .val (.ref a2), .val (.int (0 : Int32)), .val (.int (0 : Int32)), .unset] rfl ?_
  refine Wk.iconst X d10_4 5 rfl (0 : Int32) rfl ?_
  refine Wk.istore X d10_5 7 rfl #[.val (.ref a1), .val (.ref a2), .val (.int (0 : Int32)), .val (.int (0 : Int32)), .val (.int (0 : Int32))] rfl ?_
  have la : xs.length < 2 ^ 31 := by simpa using A.len
  have lb : ys.length < 2 ^ 31 := by simpa using B.len
  have loop : ∀ (k i j : Nat) (S : Int32), xs.length - i + (ys.length - j) ≤ k → i ≤ xs.length → j ≤ ys.length → S + Int32.ofNat (mrg (xs.drop i) (ys.drop j)) = Int32.ofNat (mrg xs ys) → Wk p.tables e below (Gl s n0 (fun v h => v = some (.int (Int32.ofNat (mrg xs ys))) ∧ h0 = h) 0 0) (T.setTop (mkF m 7 #[.val (.ref a1), .val (.ref a2), .val (.int S), .val (.int (Int32.ofNat i)), .val (.int (Int32.ofNat j))] [])) := by
    intro k
    induction k with
    | zero =>
      intro i j S hk hi hj hS
      refine Wk.iloadN X d10_7 8 rfl rfl ?_
      refine Wk.aloadN X d10_8 9 rfl rfl rfl ?_
      refine Wk.arraylength X A d10_9 10 rfl (Int32.ofNat xs.length) (by simp) ?_
      refine Wk.icmpT X d10_10 64 (by decide) (show ¬ (Int32.ofNat i) < (Int32.ofNat xs.length) from (by rw [show i = xs.length from by omega]; exact own_irrefl _)) ?_
      have hd : S = Int32.ofNat (mrg xs ys) := by rw [← hS, show xs.drop i = [] from List.drop_eq_nil_of_le (by omega), mrg_nil']; simp
      refine Wk.iloadN X d10_64 65 rfl rfl ?_
      exact Wk.ireturn X d10_65 (by decide) (by decide) ⟨by rw [hd], rfl⟩
    | succ k ih =>
      intro i j S hk hi hj hS
      refine Wk.iloadN X d10_7 8 rfl rfl ?_
      refine Wk.aloadN X d10_8 9 rfl rfl rfl ?_
      refine Wk.arraylength X A d10_9 10 rfl (Int32.ofNat xs.length) (by simp) ?_
      refine Wk.icmp X d10_10 64 13 (by decide) rfl ?_ ?_
      · intro h1; change ¬ (Int32.ofNat i) < (Int32.ofNat xs.length) at h1
        have hge : xs.length ≤ i := by rw [Int32.lt_iff_toInt_lt, own_ofNat (by omega), own_ofNat la] at h1; omega
        have hd : S = Int32.ofNat (mrg xs ys) := by rw [← hS, show xs.drop i = [] from List.drop_eq_nil_of_le (by omega), mrg_nil']; simp
        refine Wk.iloadN X d10_64 65 rfl rfl ?_
        exact Wk.ireturn X d10_65 (by decide) (by decide) ⟨by rw [hd], rfl⟩
      · intro h1; change (Int32.ofNat i) < (Int32.ofNat xs.length) at h1
        have hlt : i < xs.length := by rw [Int32.lt_iff_toInt_lt, own_ofNat (by omega), own_ofNat la] at h1; omega
        refine Wk.iload X d10_13 15 rfl rfl ?_
        refine Wk.aloadN X d10_15 16 rfl rfl rfl ?_
        refine Wk.arraylength X B d10_16 17 rfl (Int32.ofNat ys.length) (by simp) ?_
        refine Wk.icmp X d10_17 64 20 (by decide) rfl ?_ ?_
        · intro h2; change ¬ (Int32.ofNat j) < (Int32.ofNat ys.length) at h2
          have hge : ys.length ≤ j := by rw [Int32.lt_iff_toInt_lt, own_ofNat (by omega), own_ofNat lb] at h2; omega
          have hd : S = Int32.ofNat (mrg xs ys) := by rw [← hS, show ys.drop j = [] from List.drop_eq_nil_of_le (by omega), mrg_nil]; simp
          refine Wk.iloadN X d10_64 65 rfl rfl ?_
          exact Wk.ireturn X d10_65 (by decide) (by decide) ⟨by rw [hd], rfl⟩
        · intro h2; change (Int32.ofNat j) < (Int32.ofNat ys.length) at h2
          have hlt2 : j < ys.length := by rw [Int32.lt_iff_toInt_lt, own_ofNat (by omega), own_ofNat lb] at h2; omega
          obtain ⟨x, hx⟩ : ∃ x, x = xs[i] := ⟨_, rfl⟩
          obtain ⟨y, hy⟩ : ∃ y, y = ys[j] := ⟨_, rfl⟩
          have qi : (xs.map Value.int)[i]? = some (.int x) := by simp [hx, hlt]
          have qj : (ys.map Value.int)[j]? = some (.int y) := by simp [hy, hlt2]
          have di : xs.drop i = x :: xs.drop (i + 1) := by rw [hx]; exact List.drop_eq_getElem_cons hlt
          have dj : ys.drop j = y :: ys.drop (j + 1) := by rw [hy]; exact List.drop_eq_getElem_cons hlt2
          refine Wk.aloadN X d10_20 21 rfl rfl rfl ?_
          refine Wk.iloadN X d10_21 22 rfl rfl ?_
          refine Wk.iaload X A i (own_ofNat (by omega)) qi d10_22 23 rfl ?_
          refine Wk.aloadN X d10_23 24 rfl rfl rfl ?_
          refine Wk.iload X d10_24 26 rfl rfl ?_
          refine Wk.iaload X B j (own_ofNat (by omega)) qj d10_26 27 rfl ?_
          refine Wk.icmp X d10_27 36 30 (by decide) rfl ?_ ?_
          · intro h3; change ¬ x < y at h3
            refine Wk.aloadN X d10_36 37 rfl rfl rfl ?_
            refine Wk.iloadN X d10_37 38 rfl rfl ?_
            refine Wk.iaload X A i (own_ofNat (by omega)) qi d10_38 39 rfl ?_
            refine Wk.aloadN X d10_39 40 rfl rfl rfl ?_
            refine Wk.iload X d10_40 42 rfl rfl ?_
            refine Wk.iaload X B j (own_ofNat (by omega)) qj d10_42 43 rfl ?_
            refine Wk.icmp X d10_43 52 46 (by decide) rfl ?_ ?_
            · intro h4; change ¬ y < x at h4
              refine Wk.iinc X d10_52 55 rfl #[.val (.ref a1), .val (.ref a2), .val (.int (S + (1 : Int32))), .val (.int (Int32.ofNat i)), .val (.int (Int32.ofNat j))] rfl rfl ?_
              refine Wk.iinc X d10_55 58 rfl #[.val (.ref a1), .val (.ref a2), .val (.int (S + (1 : Int32))), .val (.int ((Int32.ofNat i) + (1 : Int32))), .val (.int (Int32.ofNat j))] rfl rfl ?_
              refine Wk.iinc X d10_58 61 rfl #[.val (.ref a1), .val (.ref a2), .val (.int (S + (1 : Int32))), .val (.int ((Int32.ofNat i) + (1 : Int32))), .val (.int ((Int32.ofNat j) + (1 : Int32)))] rfl rfl ?_
              refine Wk.goto X d10_61 7 (by decide) ?_
              rw [own_inc, own_inc]
              exact ih (i + 1) (j + 1) (S + 1) (by omega) (by omega) (by omega) (by rw [← hS, di, dj, mrg_eq _ _ h3 h4, ← own_inc, Int32.add_assoc, Int32.add_comm (1 : Int32)])
            · intro h4; change y < x at h4
              refine Wk.iinc X d10_46 49 rfl #[.val (.ref a1), .val (.ref a2), .val (.int S), .val (.int (Int32.ofNat i)), .val (.int ((Int32.ofNat j) + (1 : Int32)))] rfl rfl ?_
              refine Wk.goto X d10_49 7 (by decide) ?_
              rw [own_inc]
              exact ih i (j + 1) S (by omega) (by omega) (by omega) (by rw [← hS, di, dj, mrg_gt _ _ h4])
          · intro h3; change x < y at h3
            refine Wk.iinc X d10_30 33 rfl #[.val (.ref a1), .val (.ref a2), .val (.int S), .val (.int ((Int32.ofNat i) + (1 : Int32))), .val (.int (Int32.ofNat j))] rfl rfl ?_
            refine Wk.goto X d10_33 7 (by decide) ?_
            rw [own_inc]
            exact ih (i + 1) j S (by omega) (by omega) (by omega) (by rw [← hS, di, dj, mrg_lt _ _ h3])
  exact loop _ 0 0 0 (Nat.le_refl _) (Nat.zero_le _) (Nat.zero_le _) (by simp)
set_option maxRecDepth 65536 in
set_option maxHeartbeats 40000000 in
theorem con_law (l : Launch) (Z : State) (a0 : Array Value) (hw : ∀ d ∈ tables_1, d.before a0 Z = true) (ws : List Jvm.Cond) (h0 : Heap) (n0 : Nat) (p0 p1 p2 p3 p4 : Int32) (Z0 : n0 ≤ h0.size) :
    Con l x code maxLocals ret room_1 ws Z #[(.int p0), (.int p1), (.int p2), (.int p3), (.int p4)] h0 n0 (fun v _ => v = some (.int 1)) := by
  refine Con.of (plainFor_of_name pn0) ?_
  intro p e s m below meth c T X nm
  rw [show entryFrame m #[(.int p0), (.int p1), (.int p2), (.int p3), (.int p4)] maxLocals = mkF m 0 #[.val (.int p0), .val (.int p1), .val (.int p2), .val (.int p3), .val (.int p4), .unset, .unset, .unset, .unset, .unset, .unset, .unset, .unset] [] from by (first | (simp [entryFrame, mkF, argsToLocals, Value.category, maxLocals]; done) | rfl)]
  refine Wk.iconst X at_0 1 rfl (4 : Int32) rfl ?_
  refine Wk.newarray (aty := .int) X (t0 hw) at_1 3 rfl 4 rfl 4 (Nat.le_refl _) (by decide) (by decide) (by decide) ?_
  intro T h1 r gr X E1 R0
  change Arl Z h1 r .int [.int 0, .int 0, .int 0, .int 0] at R0
  have hr : n0 ≤ r := by omega
  refine Wk.astore X at_3 5 rfl #[.val (.int p0), .val (.int p1), .val (.int p2), .val (.int p3), .val (.int p4), .val (.ref r), .unset, .unset, .unset, .unset, .unset, .unset, .unset] rfl rfl ?_
  refine Wk.aload X at_5 7 rfl rfl rfl ?_
  refine Wk.iconst X at_7 8 rfl (0 : Int32) rfl ?_
  refine Wk.iloadN X at_8 9 rfl rfl ?_
  refine Wk.iastore X R0 hr 0 rfl (Nat.le_of_ble_eq_true rfl) at_9 10 rfl ?_
  intro T h2 X W1
  have R1 := R0.set W1
  change Arl Z h2 r .int [.int p0, .int 0, .int 0, .int 0] at R1
  refine Wk.aload X at_10 12 rfl rfl rfl ?_
  refine Wk.iconst X at_12 13 rfl (1 : Int32) rfl ?_
  refine Wk.iloadN X at_13 14 rfl rfl ?_
  refine Wk.iastore X R1 hr 1 rfl (Nat.le_of_ble_eq_true rfl) at_14 15 rfl ?_
  intro T h3 X W2
  have R2 := R1.set W2
  change Arl Z h3 r .int [.int p0, .int p1, .int 0, .int 0] at R2
  refine Wk.aload X at_15 17 rfl rfl rfl ?_
  refine Wk.iconst X at_17 18 rfl (2 : Int32) rfl ?_
  refine Wk.iloadN X at_18 19 rfl rfl ?_
  refine Wk.iastore X R2 hr 2 rfl (Nat.le_of_ble_eq_true rfl) at_19 20 rfl ?_
  intro T h4 X W3
  have R3 := R2.set W3
  change Arl Z h4 r .int [.int p0, .int p1, .int p2, .int 0] at R3
  refine Wk.aload X at_20 22 rfl rfl rfl ?_
  refine Wk.iconst X at_22 23 rfl (3 : Int32) rfl ?_
  refine Wk.iloadN X at_23 24 rfl rfl ?_
  refine Wk.iastore X R3 hr 3 rfl (Nat.le_of_ble_eq_true rfl) at_24 25 rfl ?_
  intro T h5 X W4
  have R4 := R3.set W4
  change Arl Z h5 r .int [.int p0, .int p1, .int p2, .int p3] at R4
  refine Wk.aload X at_25 27 rfl rfl rfl ?_
  refine Wk.iconst X at_27 28 rfl (0 : Int32) rfl ?_
  refine Wk.iconst X at_28 29 rfl (1 : Int32) rfl ?_
  refine Wk.callS X (t1 hw) (t2 hw) (t3 hw) (t4 hw) (con_order l Z a0 hw [] h5 n0 r 0 1 0 1 p0 p1 _ rfl rfl rfl rfl R4 hr) (by decide) pd1 [(.ref r), (.int (0 : Int32)), (.int (1 : Int32))] [] rfl rfl rfl rfl 0 (Nat.le_of_eq rfl) (by decide) (by decide) (by decide) (by decide) 1 4 rfl rfl at_29 32 rfl ?_
  rintro _ T h6 X ⟨rfl, K0, x0, x1, o0, R5⟩
  change Arl Z h6 r .int [.int x0, .int x1, .int p2, .int p3] at R5
  show Wk p.tables e below _ (T.setTop (mkF m 32 #[.val (.int p0), .val (.int p1), .val (.int p2), .val (.int p3), .val (.int p4), .val (.ref r), .unset, .unset, .unset, .unset, .unset, .unset, .unset] []))
  refine Wk.aload X at_32 34 rfl rfl rfl ?_
  refine Wk.iconst X at_34 35 rfl (2 : Int32) rfl ?_
  refine Wk.iconst X at_35 36 rfl (3 : Int32) rfl ?_
  refine Wk.callS X (t1 hw) (t2 hw) (t3 hw) (t4 hw) (con_order l Z a0 hw [] h6 n0 r 2 3 2 3 p2 p3 _ rfl rfl rfl rfl R5 hr) (by decide) pd1 [(.ref r), (.int (2 : Int32)), (.int (3 : Int32))] [] rfl rfl rfl rfl 0 (Nat.le_of_eq rfl) (by decide) (by decide) (by decide) (by decide) 1 4 rfl rfl at_36 39 rfl ?_
  rintro _ T h7 X ⟨rfl, K1, y0, y1, o1, R6⟩
  change Arl Z h7 r .int [.int x0, .int x1, .int y0, .int y1] at R6
  show Wk p.tables e below _ (T.setTop (mkF m 39 #[.val (.int p0), .val (.int p1), .val (.int p2), .val (.int p3), .val (.int p4), .val (.ref r), .unset, .unset, .unset, .unset, .unset, .unset, .unset] []))
  refine Wk.aload X at_39 41 rfl rfl rfl ?_
  refine Wk.iconst X at_41 42 rfl (0 : Int32) rfl ?_
  refine Wk.iconst X at_42 43 rfl (2 : Int32) rfl ?_
  refine Wk.callS X (t1 hw) (t2 hw) (t3 hw) (t4 hw) (con_order l Z a0 hw [] h7 n0 r 0 2 0 2 x0 y0 _ rfl rfl rfl rfl R6 hr) (by decide) pd1 [(.ref r), (.int (0 : Int32)), (.int (2 : Int32))] [] rfl rfl rfl rfl 0 (Nat.le_of_eq rfl) (by decide) (by decide) (by decide) (by decide) 1 4 rfl rfl at_43 46 rfl ?_
  rintro _ T h8 X ⟨rfl, K2, z0, z2, o2, R7⟩
  change Arl Z h8 r .int [.int z0, .int x1, .int z2, .int y1] at R7
  show Wk p.tables e below _ (T.setTop (mkF m 46 #[.val (.int p0), .val (.int p1), .val (.int p2), .val (.int p3), .val (.int p4), .val (.ref r), .unset, .unset, .unset, .unset, .unset, .unset, .unset] []))
  refine Wk.aload X at_46 48 rfl rfl rfl ?_
  refine Wk.iconst X at_48 49 rfl (1 : Int32) rfl ?_
  refine Wk.iconst X at_49 50 rfl (3 : Int32) rfl ?_
  refine Wk.callS X (t1 hw) (t2 hw) (t3 hw) (t4 hw) (con_order l Z a0 hw [] h8 n0 r 1 3 1 3 x1 y1 _ rfl rfl rfl rfl R7 hr) (by decide) pd1 [(.ref r), (.int (1 : Int32)), (.int (3 : Int32))] [] rfl rfl rfl rfl 0 (Nat.le_of_eq rfl) (by decide) (by decide) (by decide) (by decide) 1 4 rfl rfl at_50 53 rfl ?_
  rintro _ T h9 X ⟨rfl, K3, u1, u3, o3, R8⟩
  change Arl Z h9 r .int [.int z0, .int u1, .int z2, .int u3] at R8
  show Wk p.tables e below _ (T.setTop (mkF m 53 #[.val (.int p0), .val (.int p1), .val (.int p2), .val (.int p3), .val (.int p4), .val (.ref r), .unset, .unset, .unset, .unset, .unset, .unset, .unset] []))
  refine Wk.aload X at_53 55 rfl rfl rfl ?_
  refine Wk.iconst X at_55 56 rfl (1 : Int32) rfl ?_
  refine Wk.iconst X at_56 57 rfl (2 : Int32) rfl ?_
  refine Wk.callS X (t1 hw) (t2 hw) (t3 hw) (t4 hw) (con_order l Z a0 hw [] h9 n0 r 1 2 1 2 u1 z2 _ rfl rfl rfl rfl R8 hr) (by decide) pd1 [(.ref r), (.int (1 : Int32)), (.int (2 : Int32))] [] rfl rfl rfl rfl 0 (Nat.le_of_eq rfl) (by decide) (by decide) (by decide) (by decide) 1 4 rfl rfl at_57 60 rfl ?_
  rintro _ T h10 X ⟨rfl, K4, v1, v2, o4, R9⟩
  change Arl Z h10 r .int [.int z0, .int v1, .int v2, .int u3] at R9
  show Wk p.tables e below _ (T.setTop (mkF m 60 #[.val (.int p0), .val (.int p1), .val (.int p2), .val (.int p3), .val (.int p4), .val (.ref r), .unset, .unset, .unset, .unset, .unset, .unset, .unset] []))
  refine Wk.aload X at_60 62 rfl rfl rfl ?_
  refine Wk.iconst X at_62 63 rfl (0 : Int32) rfl ?_
  obtain ⟨s1, s2, s3⟩ := own_sorted o0 o1 o2 o3 o4
  refine Wk.iaload X R9 0 rfl rfl at_63 64 rfl ?_
  refine Wk.aload X at_64 66 rfl rfl rfl ?_
  refine Wk.iconst X at_66 67 rfl (1 : Int32) rfl ?_
  refine Wk.iaload X R9 1 rfl rfl at_67 68 rfl ?_
  refine Wk.icmp X at_68 93 71 (by decide) rfl ?_ ?_
  · intro e1; change z0 = v1 at e1
    refine Wk.iconst X at_93 94 rfl (1 : Int32) rfl ?_
    exact Wk.zreturn X at_94 (by decide) (by decide) (Or.inr rfl) rfl
  · intro e1; change ¬ z0 = v1 at e1
    refine Wk.aload X at_71 73 rfl rfl rfl ?_
    refine Wk.iconst X at_73 74 rfl (1 : Int32) rfl ?_
    refine Wk.iaload X R9 1 rfl rfl at_74 75 rfl ?_
    refine Wk.aload X at_75 77 rfl rfl rfl ?_
    refine Wk.iconst X at_77 78 rfl (2 : Int32) rfl ?_
    refine Wk.iaload X R9 2 rfl rfl at_78 79 rfl ?_
    refine Wk.icmp X at_79 93 82 (by decide) rfl ?_ ?_
    · intro e2; change v1 = v2 at e2
      refine Wk.iconst X at_93 94 rfl (1 : Int32) rfl ?_
      exact Wk.zreturn X at_94 (by decide) (by decide) (Or.inr rfl) rfl
    · intro e2; change ¬ v1 = v2 at e2
      refine Wk.aload X at_82 84 rfl rfl rfl ?_
      refine Wk.iconst X at_84 85 rfl (2 : Int32) rfl ?_
      refine Wk.iaload X R9 2 rfl rfl at_85 86 rfl ?_
      refine Wk.aload X at_86 88 rfl rfl rfl ?_
      refine Wk.iconst X at_88 89 rfl (3 : Int32) rfl ?_
      refine Wk.iaload X R9 3 rfl rfl at_89 90 rfl ?_
      refine Wk.icmp X at_90 95 93 (by decide) rfl ?_ ?_
      · intro e3; change ¬ v2 = u3 at e3
        refine Wk.iload X at_95 97 rfl rfl ?_
        refine Wk.bipush X at_97 99 rfl (15 : Int32) rfl ?_
        refine Wk.iand X at_99 100 rfl ?_
        refine Wk.istore X at_100 102 rfl #[.val (.int p0), .val (.int p1), .val (.int p2), .val (.int p3), .val (.int p4), .val (.ref r), .val (.int (p4 &&& (15 : Int32))), .unset, .unset, .unset, .unset, .unset, .unset] rfl ?_
        refine Wk.iload X at_102 104 rfl rfl ?_
        refine Wk.iconst X at_104 105 rfl (4 : Int32) rfl ?_
        refine Wk.iushr X at_105 106 rfl ?_
        refine Wk.bipush X at_106 108 rfl (15 : Int32) rfl ?_
        refine Wk.iand X at_108 109 rfl ?_
        refine Wk.istore X at_109 111 rfl #[.val (.int p0), .val (.int p1), .val (.int p2), .val (.int p3), .val (.int p4), .val (.ref r), .val (.int (p4 &&& (15 : Int32))), .val (.int (((p4.toUInt32 >>> ((4 : Int32) &&& 31).toUInt32).toInt32) &&& (15 : Int32))), .unset, .unset, .unset, .unset, .unset] rfl ?_
        have ka : 0 ≤ (p4 &&& (15 : Int32)).toInt ∧ (p4 &&& (15 : Int32)).toInt < 16 := by rw [c_mask p4 15 4 (by decide) (by decide)]; omega
        have kb : 0 ≤ (((p4.toUInt32 >>> ((4 : Int32) &&& 31).toUInt32).toInt32) &&& (15 : Int32)).toInt ∧ (((p4.toUInt32 >>> ((4 : Int32) &&& 31).toUInt32).toInt32) &&& (15 : Int32)).toInt < 16 := by rw [c_mask _ 15 4 (by decide) (by decide)]; omega
        generalize (p4 &&& (15 : Int32)) = ma at ka ⊢
        generalize (((p4.toUInt32 >>> ((4 : Int32) &&& 31).toUInt32).toInt32) &&& (15 : Int32)) = mb at kb ⊢
        show Wk p.tables e below _ (T.setTop (mkF m 111 #[.val (.int p0), .val (.int p1), .val (.int p2), .val (.int p3), .val (.int p4), .val (.ref r), .val (.int ma), .val (.int mb), .unset, .unset, .unset, .unset, .unset] []))
        refine Wk.aload X at_111 113 rfl rfl rfl ?_
        refine Wk.iload X at_113 115 rfl rfl ?_
        have zz : n0 ≤ h10.size := Nat.le_trans hr (Nat.le_of_lt R9.lt)
        refine Wk.callS X (t5 hw) (t6 hw) (t3 hw) (t7 hw) (con_pick l Z a0 hw [] h10 n0 r ma z0 v1 v2 u3 ka.1 ka.2 R9 zz) (by decide) pd2 [(.ref r), (.int ma)] [] rfl rfl rfl rfl 0 (Nat.le_of_eq rfl) (by decide) (by decide) (by decide) (by decide) 2 8 rfl rfl at_115 118 rfl ?_
        rintro _ T g1 X ⟨ra, rfl, ga, Ka, RA⟩
        show Wk p.tables e below _ (T.setTop (mkF m 118 #[.val (.int p0), .val (.int p1), .val (.int p2), .val (.int p3), .val (.int p4), .val (.ref r), .val (.int ma), .val (.int mb), .unset, .unset, .unset, .unset, .unset] [(.ref ra)]))
        refine Wk.astore X at_118 120 rfl #[.val (.int p0), .val (.int p1), .val (.int p2), .val (.int p3), .val (.int p4), .val (.ref r), .val (.int ma), .val (.int mb), .val (.ref ra), .unset, .unset, .unset, .unset] rfl rfl ?_
        refine Wk.aload X at_120 122 rfl rfl rfl ?_
        refine Wk.iload X at_122 124 rfl rfl ?_
        have RR1 := R9.keep Ka nin0
        have zz1 : n0 ≤ g1.size := Nat.le_trans hr (Nat.le_of_lt RR1.lt)
        refine Wk.callS X (t5 hw) (t6 hw) (t3 hw) (t7 hw) (con_pick l Z a0 hw [] g1 n0 r mb z0 v1 v2 u3 kb.1 kb.2 RR1 zz1) (by decide) pd2 [(.ref r), (.int mb)] [] rfl rfl rfl rfl 0 (Nat.le_of_eq rfl) (by decide) (by decide) (by decide) (by decide) 3 12 rfl rfl at_124 127 rfl ?_
        rintro _ T g2 X ⟨rb, rfl, gb, Kb, RB⟩
        show Wk p.tables e below _ (T.setTop (mkF m 127 #[.val (.int p0), .val (.int p1), .val (.int p2), .val (.int p3), .val (.int p4), .val (.ref r), .val (.int ma), .val (.int mb), .val (.ref ra), .unset, .unset, .unset, .unset] [(.ref rb)]))
        refine Wk.astore X at_127 129 rfl #[.val (.int p0), .val (.int p1), .val (.int p2), .val (.int p3), .val (.int p4), .val (.ref r), .val (.int ma), .val (.int mb), .val (.ref ra), .val (.ref rb), .unset, .unset, .unset] rfl rfl ?_
        refine Wk.iload X at_129 131 rfl rfl ?_
        refine Wk.iload X at_131 133 rfl rfl ?_
        refine Wk.iand X at_133 134 rfl ?_
        have RA1 := RA.keep Kb nin0
        refine Wk.callS X (t8 hw) (t9 hw) (t3 hw) (t10 hw) (con_count l Z a0 hw [] g2 n0 (ma &&& mb)) (by decide) pd0 [(.int (ma &&& mb))] [] rfl rfl rfl rfl 0 (Nat.le_of_eq rfl) (by decide) (by decide) (by decide) (by decide) 3 12 rfl rfl at_134 137 rfl ?_
        rintro _ T _ X ⟨rfl, rfl⟩
        show Wk p.tables e below _ (T.setTop (mkF m 137 #[.val (.int p0), .val (.int p1), .val (.int p2), .val (.int p3), .val (.int p4), .val (.ref r), .val (.int ma), .val (.int mb), .val (.ref ra), .val (.ref rb), .unset, .unset, .unset] [(.int (cntE (ma &&& mb)))]))
        refine Wk.istore X at_137 139 rfl #[.val (.int p0), .val (.int p1), .val (.int p2), .val (.int p3), .val (.int p4), .val (.ref r), .val (.int ma), .val (.int mb), .val (.ref ra), .val (.ref rb), .val (.int (cntE (ma &&& mb))), .unset, .unset] rfl ?_
        refine Wk.aload X at_139 141 rfl rfl rfl ?_
        refine Wk.aload X at_141 143 rfl rfl rfl ?_
        refine Wk.callS X (t11 hw) (t12 hw) (t13 hw) (t14 hw) (con_shared l Z a0 hw [] g2 n0 ra rb (pickL ma z0 v1 v2 u3) (pickL mb z0 v1 v2 u3) RA1 RB) (by decide) pd3 [(.ref ra), (.ref rb)] [] rfl rfl rfl rfl 0 (Nat.le_of_eq rfl) (by decide) (by decide) (by decide) (by decide) 3 12 rfl rfl at_143 146 rfl ?_
        rintro _ T _ X ⟨rfl, rfl⟩
        show Wk p.tables e below _ (T.setTop (mkF m 146 #[.val (.int p0), .val (.int p1), .val (.int p2), .val (.int p3), .val (.int p4), .val (.ref r), .val (.int ma), .val (.int mb), .val (.ref ra), .val (.ref rb), .val (.int (cntE (ma &&& mb))), .unset, .unset] [(.int (Int32.ofNat (mrg (pickL ma z0 v1 v2 u3) (pickL mb z0 v1 v2 u3))))]))
        refine Wk.istore X at_146 148 rfl #[.val (.int p0), .val (.int p1), .val (.int p2), .val (.int p3), .val (.int p4), .val (.ref r), .val (.int ma), .val (.int mb), .val (.ref ra), .val (.ref rb), .val (.int (cntE (ma &&& mb))), .val (.int (Int32.ofNat (mrg (pickL ma z0 v1 v2 u3) (pickL mb z0 v1 v2 u3)))), .unset] rfl ?_
        refine Wk.aload X at_148 150 rfl rfl rfl ?_
        refine Wk.aload X at_150 152 rfl rfl rfl ?_
        refine Wk.callS X (t11 hw) (t12 hw) (t13 hw) (t14 hw) (con_shared l Z a0 hw [] g2 n0 rb ra (pickL mb z0 v1 v2 u3) (pickL ma z0 v1 v2 u3) RB RA1) (by decide) pd3 [(.ref rb), (.ref ra)] [] rfl rfl rfl rfl 0 (Nat.le_of_eq rfl) (by decide) (by decide) (by decide) (by decide) 3 12 rfl rfl at_152 155 rfl ?_
        rintro _ T _ X ⟨rfl, rfl⟩
        show Wk p.tables e below _ (T.setTop (mkF m 155 #[.val (.int p0), .val (.int p1), .val (.int p2), .val (.int p3), .val (.int p4), .val (.ref r), .val (.int ma), .val (.int mb), .val (.ref ra), .val (.ref rb), .val (.int (cntE (ma &&& mb))), .val (.int (Int32.ofNat (mrg (pickL ma z0 v1 v2 u3) (pickL mb z0 v1 v2 u3)))), .unset] [(.int (Int32.ofNat (mrg (pickL mb z0 v1 v2 u3) (pickL ma z0 v1 v2 u3))))]))
        refine Wk.istore X at_155 157 rfl #[.val (.int p0), .val (.int p1), .val (.int p2), .val (.int p3), .val (.int p4), .val (.ref r), .val (.int ma), .val (.int mb), .val (.ref ra), .val (.ref rb), .val (.int (cntE (ma &&& mb))), .val (.int (Int32.ofNat (mrg (pickL ma z0 v1 v2 u3) (pickL mb z0 v1 v2 u3)))), .val (.int (Int32.ofNat (mrg (pickL mb z0 v1 v2 u3) (pickL ma z0 v1 v2 u3))))] rfl ?_
        refine Wk.iload X at_157 159 rfl rfl ?_
        refine Wk.iload X at_159 161 rfl rfl ?_
        have t1 := own_strict s1 e1
        have t2 := own_strict s2 e2
        have t3 := own_strict s3 e3
        refine Wk.icmpF X at_161 164 rfl (show (Int32.ofNat (mrg (pickL ma z0 v1 v2 u3) (pickL mb z0 v1 v2 u3))) = (cntE (ma &&& mb)) from (own_shared ma mb z0 v1 v2 u3 ka.1 ka.2 kb.1 kb.2 t1 t2 t3)) ?_
        refine Wk.iload X at_164 166 rfl rfl ?_
        refine Wk.iload X at_166 168 rfl rfl ?_
        refine Wk.icmpF X at_168 171 rfl (show (Int32.ofNat (mrg (pickL mb z0 v1 v2 u3) (pickL ma z0 v1 v2 u3))) = (cntE (ma &&& mb)) from (by rw [Int32.and_comm ma mb]; exact own_shared mb ma z0 v1 v2 u3 kb.1 kb.2 ka.1 ka.2 t1 t2 t3)) ?_
        refine Wk.iconst X at_171 172 rfl (1 : Int32) rfl ?_
        refine Wk.goto X at_172 176 (by decide) ?_
        exact Wk.zreturn X at_176 (by decide) (by decide) (Or.inr rfl) rfl
      · intro e3; change v2 = u3 at e3
        refine Wk.iconst X at_93 94 rfl (1 : Int32) rfl ?_
        exact Wk.zreturn X at_94 (by decide) (by decide) (Or.inr rfl) rfl
set_option maxRecDepth 65536 in
set_option maxHeartbeats 40000000 in
theorem comes_1 {Post : Tables → Env → Array Value → State → Outcome → State → Prop} (hpost : ∀ tb e args s v u, (limb_1_1.after args s (.returned v) u = true ∧ limb_1_2.after args s (.returned v) u = true ∧ True) → FrameEnd s (.returned v) u (Jvm.fieldLocs frame_1_writes args s ++ Jvm.arrayLocs frame_1_arrays args s ++ Jvm.staticLocs frame_1_statics s) 16 128 → Post tb e args s (.returned v) u) :
    ArmFor flags0 classFile x code maxLocals ret World_1 tables_1 room_1 Calls_1 rest_1 Pre_1 Post := by
  intro l hfl _ _ p e ha hc hk s m args below hf hA hF happ hP
  obtain ⟨hcalls, hrest, hpre⟩ := hP
  obtain ⟨-, -, -, hnamed, -, -, -, hat⟩ := (Spec.applies_iff hf).mp happ
  obtain ⟨hg, hn⟩ := and_e (Cond.before_iff.mp (show (Jvm.Cond.and given_1 narrow_1).before args s = true from hpre))
  obtain ⟨g0, r0⟩ := and_e hg
  obtain ⟨g1, r1⟩ := and_e r0
  obtain ⟨g2, r2⟩ := and_e r1
  obtain ⟨g3, r3⟩ := and_e r2
  obtain ⟨g4, r4⟩ := and_e r3
  have g5 := r4
  obtain ⟨w0, w1, w2, w3, w4, rfl⟩ : ∃ w0 w1 w2 w3 w4 : Value, args = #[w0, w1, w2, w3, w4] := by
    have hs : args.size = 5 := by simpa [Cond.value, given_1] using g0
    obtain ⟨L⟩ := args
    match L, hs with
    | [w0, w1, w2, w3, w4], _ => exact ⟨w0, w1, w2, w3, w4, rfl⟩
  have hw := fun d (hd : d ∈ tables_1) => atoms_spec (ws := Jvm.Cond.code x code maxLocals ret :: tables_1) hat d (List.mem_cons_of_mem _ hd)
  obtain ⟨i0, ei0⟩ := is_v g1
  obtain rfl : w0 = (.int i0) := Option.some.inj ei0
  obtain ⟨i1, ei1⟩ := is_v g2
  obtain rfl : w1 = (.int i1) := Option.some.inj ei1
  obtain ⟨i2, ei2⟩ := is_v g3
  obtain rfl : w2 = (.int i2) := Option.some.inj ei2
  obtain ⟨i3, ei3⟩ := is_v g4
  obtain rfl : w3 = (.int i3) := Option.some.inj ei3
  obtain ⟨i4, ei4⟩ := is_v g5
  obtain rfl : w4 = (.int i4) := Option.some.inj ei4
  obtain ⟨n, o, h1, h2, h3, _, L, rfl, ⟨rfl, N⟩, hq⟩ := con_law l s _ hw tables_1 s.heap s.heap.size i0 i1 i2 i3 i4 (Nat.le_refl _) p e ha hc hk s m _ below hf ((Spec.applies_iff_loose hf).mp happ).1 ⟨rfl, State.Warmed39.refl s, rfl⟩ trivial
  refine ⟨n, _, h1, h2, h3, hpost _ _ _ _ _ _ ⟨Cond.after_iff.mpr rfl, Cond.after_iff.mpr (eq_i res_at (Term.int_eval (1)) rfl), trivial⟩ ⟨hq.1, hq.2.1, (hq.2.2.sift fun y hy => Or.inr (N y hy)).mono (by decide) (by decide)⟩⟩
theorem main_1_1 : Claimed_1_1 := comes_1 fun _ _ _ _ _ _ h hF => ⟨h.1, hF⟩
theorem main_1_2 : Claimed_1_2 := comes_1 fun _ _ _ _ _ _ h hF => ⟨h.2.1, hF⟩
end Jvm.Pilot.@@N@@
namespace Jvm.Pilot.@@N@@
open Jvm Jvm.ClassFile Sem Op Lib Jvm.Free Jvm.Stand Jvm.Pilot.@@N@@.Jvm.D
/-! MADE BY PROGRAM (witnessworld.py) out of the Statement's table words and the real class files: 9 classes; the members and pool entries that the words name. The judged class is class 1, her method 1. -/
namespace start1
open Jvm.ClassFile
def u (s : String) : CpInfo := .utf8 (stringToUtf16 s)
/-- a pool by its gaps: so many unusable entries, then the entry; so many at the end -/
def gap : Nat → List CpInfo → List CpInfo
  | 0, r => r
  | n + 1, r => .unusable :: gap n r
def poolList (es : List (Nat × CpInfo)) (last : Nat) : List CpInfo := es.foldr (fun e r => gap e.1 (e.2 :: r)) (gap last [])
def pool (es : List (Nat × CpInfo)) (last : Nat) : Array CpInfo := ⟨poolList es last⟩
def fileOf (pool : Array CpInfo) (this : Nat) (attrs : Array Attribute := #[]) (ms : Array MethodInfo := #[]) (fl : Nat := 33) (sup : Nat := 0) (ifs : Array Nat := #[]) (fds : Array FieldInfo := #[]) : ClassFile where
  minorVersion := 0
  majorVersion := 65
  constantPool := pool
  accessFlags := fl
  thisClass := this
  superClass := sup
  interfaces := ifs
  fields := fds
  methods := ms
  attributes := attrs
def plain (name : String) (sup : Option ClassId) : Class where
  name := name
  kind := .ordinary
  loader := none
  accessFlags := 33
  super := sup
  interfaces := #[]
  cf := none
  fields := #[]
  methods := #[]
  instanceTypes := #[]
  staticTypes := #[]
  resolved := #[]
  callSites := []
  init := .initialized
  statics := none
  mirror := none

def pool0 : Array CpInfo := pool [(5, u "<init>"), (0, u "()V"), (1, .class_ 10), (1, u "java/lang/Object")] 113

def k0m0 : Method := { name := "<init>", desc := "()V", sig := { parameters := [], returnType := none }, accessFlags := 1, code := none }
/-- java/lang/Object -/
def k0 : Class := { plain "java/lang/Object" none with
  accessFlags := 33
  interfaces := #[]
  cf := some (fileOf pool0 8 #[] #[{ accessFlags := 1, nameIndex := 5, descriptorIndex := 6, attributes := #[] }] 33 0 #[] #[])
  fields := #[]
  methods := #[k0m0]
  instanceTypes := #[]
  staticTypes := #[]
  resolved := Array.replicate 124 none
  statics := none }

def pool1 : Array CpInfo := pool [(2, .class_ 4), (1, u "java/lang/Object"), (0, u "<init>"), (0, u "()V"), (0, .methodref 8 9), (0, .class_ 10), (0, .nameAndType 11 12), (0, u "com/example/semblance/semblance/condition/TokenSetSharedPinLaw"), (0, u "order"), (0, u "([III)V"), (0, .methodref 8 14), (0, .nameAndType 15 16), (0, u "pick"), (0, u "([II)[I"), (0, .methodref 8 18), (0, .nameAndType 19 20), (0, u "count"), (0, u "(I)I"), (0, .methodref 22 23), (0, .class_ 24), (0, .nameAndType 25 26), (0, u "com/example/semblance/semblance/condition/TokenSet"), (0, u "shared"), (0, u "([I[I)I"), (2, u "law"), (0, u "(IIIII)Z")] 5

def k1m0 : Method := { name := "<init>", desc := "()V", sig := { parameters := [], returnType := none }, accessFlags := 1, code := none }
def k1c1 : Code := { maxStack := 3, maxLocals := 13, code := code, exceptionTable := #[], attributes := #[] }
def k1m1 : Method := { name := "law", desc := "(IIIII)Z", sig := { parameters := [.int, .int, .int, .int, .int], returnType := some .boolean }, accessFlags := 9, code := some k1c1 }
def k1c2 : Code := { maxStack := 4, maxLocals := 4, code := method_3_code, exceptionTable := #[], attributes := #[] }
def k1m2 : Method := { name := "order", desc := "([III)V", sig := { parameters := [(.array .int), .int, .int], returnType := none }, accessFlags := 10, code := some k1c2 }
def k1c3 : Code := { maxStack := 3, maxLocals := 1, code := method_4_code, exceptionTable := #[], attributes := #[] }
def k1m3 : Method := { name := "count", desc := "(I)I", sig := { parameters := [.int], returnType := some .int }, accessFlags := 10, code := some k1c3 }
def k1c4 : Code := { maxStack := 4, maxLocals := 4, code := method_5_code, exceptionTable := #[], attributes := #[] }
def k1m4 : Method := { name := "pick", desc := "([II)[I", sig := { parameters := [(.array .int), .int], returnType := some (.array .int) }, accessFlags := 10, code := some k1c4 }
/-- com/example/semblance/semblance/condition/TokenSetSharedPinLaw -/
def k1 : Class := { plain "com/example/semblance/semblance/condition/TokenSetSharedPinLaw" (some 0) with
  accessFlags := 49
  interfaces := #[]
  cf := some (fileOf pool1 8 #[] #[{ accessFlags := 1, nameIndex := 5, descriptorIndex := 6, attributes := #[] }, { accessFlags := 9, nameIndex := 29, descriptorIndex := 30, attributes := #[] }, { accessFlags := 10, nameIndex := 11, descriptorIndex := 12, attributes := #[] }, { accessFlags := 10, nameIndex := 19, descriptorIndex := 20, attributes := #[] }, { accessFlags := 10, nameIndex := 15, descriptorIndex := 16, attributes := #[] }] 49 2 #[] #[])
  fields := #[]
  methods := #[k1m0, k1m1, k1m2, k1m3, k1m4]
  instanceTypes := #[]
  staticTypes := #[]
  resolved := Array.replicate 36 none
  statics := none }

def pool2 : Array CpInfo := pool [(2, .class_ 4), (1, u "java/lang/Object"), (3, .class_ 10), (1, u "com/example/semblance/semblance/condition/TokenSet"), (0, u "numbers"), (0, u "[I"), (14, u "shared"), (0, u "([I[I)I")] 12

def k2c0 : Code := { maxStack := 3, maxLocals := 5, code := prog_43_method_6_code, exceptionTable := #[], attributes := #[] }
def k2m0 : Method := { name := "shared", desc := "([I[I)I", sig := { parameters := [(.array .int), (.array .int)], returnType := some .int }, accessFlags := 8, code := some k2c0 }
/-- com/example/semblance/semblance/condition/TokenSet -/
def k2 : Class := { plain "com/example/semblance/semblance/condition/TokenSet" (some 0) with
  accessFlags := 48
  interfaces := #[]
  cf := some (fileOf pool2 8 #[] #[{ accessFlags := 8, nameIndex := 27, descriptorIndex := 28, attributes := #[] }] 48 2 #[] #[{ accessFlags := 18, nameIndex := 11, descriptorIndex := 12, attributes := #[] }])
  fields := #[{ name := "numbers", type := (.array .int), accessFlags := 18, slot := 0, constantValue := 0 }]
  methods := #[k2m0]
  instanceTypes := #[(.array .int)]
  staticTypes := #[]
  resolved := Array.replicate 41 none
  statics := none }

def pool3 : Array CpInfo := pool [(1, u "java/lang/Cloneable"), (0, .class_ 1), (0, u "java/lang/Object"), (0, .class_ 3)] 3

/-- java/lang/Cloneable -/
def k3 : Class := { plain "java/lang/Cloneable" (some 0) with
  accessFlags := 1537
  interfaces := #[]
  cf := some (fileOf pool3 2 #[] #[] 1537 4 #[] #[])
  fields := #[]
  methods := #[]
  instanceTypes := #[]
  staticTypes := #[]
  resolved := Array.replicate 8 none
  statics := none }

def pool4 : Array CpInfo := pool [(1, u "java/io/Serializable"), (0, .class_ 1), (0, u "java/lang/Object"), (0, .class_ 3)] 3

/-- java/io/Serializable -/
def k4 : Class := { plain "java/io/Serializable" (some 0) with
  accessFlags := 1537
  interfaces := #[]
  cf := some (fileOf pool4 2 #[] #[] 1537 4 #[] #[])
  fields := #[]
  methods := #[]
  instanceTypes := #[]
  staticTypes := #[]
  resolved := Array.replicate 8 none
  statics := none }

/-- the primitive byte -/
def k5 : Class := { plain "byte" none with kind := .primitive 'B', accessFlags := 0x411 }
/-- [B -/
def k6 : Class := { plain "[B" (some 0) with kind := .array 5 .byte, interfaces := #[3, 4], accessFlags := 1041 }

/-- the primitive int -/
def k7 : Class := { plain "int" none with kind := .primitive 'I', accessFlags := 0x411 }
/-- [I -/
def k8 : Class := { plain "[I" (some 0) with kind := .array 7 .int, interfaces := #[3, 4], accessFlags := 1041 }

def heap : Heap := #[]
def classes : Array Class := #[k0, k1, k2, k3, k4, k5, k6, k7, k8]
def interned : List (Array UInt16 × Addr) := []
def slotsUsed : Nat := 0
def theMethod : MethodId := ⟨1, 1⟩
def args0 : Array Value := #[.int 5, .int 3, .int 9, .int 1, .int 118]
def aboutOver (below : List Frame) : State where
  vm := { classes := classes, interned := interned.toArray }
  heap := heap
  slotsUsed := slotsUsed
  threads := #[{ frames := .invoking theMethod args0 :: below }]
def below0 : List Frame := [.native { method := ⟨0, 0⟩, args := #[] }]
def about1 : State := aboutOver below0
def p0 : Program := .bare "" "" ""
def e0 : Env := launch0.env 0 0 0
theorem w_frames : about1.frames = Frame.invoking theMethod args0 :: below0 := rfl
set_option maxRecDepth 65536 in
theorem w_args : argsFit about1.vm theMethod args0 = true := by decide +kernel
set_option maxRecDepth 65536 in
theorem w_heap : heapFits about1 = true := by decide +kernel
set_option maxRecDepth 65536 in
theorem w_runnable : about1.curStatus? = some .runnable := by decide +kernel
set_option maxRecDepth 65536 in
theorem w_alone : about1.alone = true := by decide +kernel
set_option maxRecDepth 65536 in
theorem w_named : about1.methodNamed? x = some theMethod := by decide +kernel
set_option maxRecDepth 65536 in
theorem w_hears : about1.hears theMethod below0 = true := by decide +kernel
set_option maxRecDepth 65536 in
theorem w_ripe : about1.ripe theMethod args0 below0 = true := by decide +kernel
theorem w_running : about1.status = .running := rfl
set_option maxRecDepth 65536 in
theorem w_room : about1.hasRoom e0.platform room_1 = true :=
  launch0.hasRoom_least _ room_1 (by decide +kernel) (by decide +kernel) (by decide +kernel) (by decide +kernel) (by decide +kernel) (by decide +kernel)
theorem allAtoms_all (ts : List Jvm.Cond) (a : Array Jvm.Value) (st : Jvm.State) : (allAtoms ts).before a st = ts.all (fun c => c.before a st) := by
  induction ts with
  | nil => rfl
  | cons c t ih =>
    show (Jvm.Cond.and c (allAtoms t)).before a st = _
    rw [Jvm.Cond.before_and, ih, List.all_cons]
def words1 : List Jvm.Cond := Jvm.Cond.code x code maxLocals ret :: tables_1
/-- a 'code' word, met by the world's own term for the bytes: nothing is compared byte by byte -/
theorem code_word {y : MethodName} {bytes : ByteArray} {mx : Nat} {rt : Option FieldType} {a : Array Value} {s : State} {m : MethodId} {meth : Method} {c : Code} (h1 : s.methodNamed? y = some m) (h2 : s.vm.method? m = some meth) (h3 : meth.code = some c) (h4 : c.code = bytes)
    (h5 : (c.maxLocals == mx && c.exceptionTable.isEmpty && decide (c.maxStack ≤ mostOperands) && decide (meth.sig.returnType = rt) && !meth.locks && decide (parseMethodDescriptor y.desc = some meth.sig)) = true) : (Jvm.Cond.code y bytes mx rt).before a s = true := by
  simp only [Bool.and_eq_true, beq_iff_eq, Bool.not_eq_true', decide_eq_true_eq] at h5
  obtain ⟨⟨⟨⟨⟨g1, g2⟩, g3⟩, g4⟩, g5⟩, g6⟩ := h5
  simp [Cond.before, Cond.holds, Cond.value, h1, h2, h3, h4, g1, g2, g3, g4, g5, g6]
def isCode : Jvm.Cond → Bool
  | .code _ _ _ _ => true
  | _ => false
theorem all_split {L : List Jvm.Cond} {P : Jvm.Cond → Bool} (h1 : L.all (fun c => isCode c || P c) = true) (h2 : ∀ c ∈ L.filter isCode, P c = true) : L.all P = true := by
  refine List.all_eq_true.mpr fun c hc => ?_
  have h := List.all_eq_true.mp h1 c hc
  rcases Bool.eq_false_or_eq_true (isCode c) with hi | hi
  · exact h2 c (List.mem_filter.mpr ⟨hc, hi⟩)
  · simpa [hi] using h
set_option maxRecDepth 65536 in
theorem w_c0 : (Jvm.Cond.code x code maxLocals ret).before args0 about1 = true := code_word (m := ⟨1, 1⟩) (meth := k1m1) (c := k1c1) (by decide +kernel) rfl rfl rfl (by decide +kernel)
set_option maxRecDepth 65536 in
theorem w_c1 : (Jvm.Cond.code ({ cls := "com/example/semblance/semblance/condition/TokenSetSharedPinLaw", name := "order", desc := "([III)V" } : Jvm.MethodName) method_3_code (4 : Nat) (Option.none : Option Jvm.ClassFile.FieldType)).before args0 about1 = true := code_word (m := ⟨1, 2⟩) (meth := k1m2) (c := k1c2) (by decide +kernel) rfl rfl rfl (by decide +kernel)
set_option maxRecDepth 65536 in
theorem w_c2 : (Jvm.Cond.code ({ cls := "com/example/semblance/semblance/condition/TokenSetSharedPinLaw", name := "pick", desc := "([II)[I" } : Jvm.MethodName) method_5_code (4 : Nat) (Option.some (Jvm.ClassFile.FieldType.array Jvm.ClassFile.FieldType.int))).before args0 about1 = true := code_word (m := ⟨1, 4⟩) (meth := k1m4) (c := k1c4) (by decide +kernel) rfl rfl rfl (by decide +kernel)
set_option maxRecDepth 65536 in
theorem w_c3 : (Jvm.Cond.code ({ cls := "com/example/semblance/semblance/condition/TokenSetSharedPinLaw", name := "count", desc := "(I)I" } : Jvm.MethodName) method_4_code (1 : Nat) (Option.some Jvm.ClassFile.FieldType.int)).before args0 about1 = true := code_word (m := ⟨1, 3⟩) (meth := k1m3) (c := k1c3) (by decide +kernel) rfl rfl rfl (by decide +kernel)
set_option maxRecDepth 65536 in
theorem w_c4 : (Jvm.Cond.code ({ cls := "com/example/semblance/semblance/condition/TokenSet", name := "shared", desc := "([I[I)I" } : Jvm.MethodName) prog_43_method_6_code (5 : Nat) (Option.some Jvm.ClassFile.FieldType.int)).before args0 about1 = true := code_word (m := ⟨2, 0⟩) (meth := k2m0) (c := k2c0) (by decide +kernel) rfl rfl rfl (by decide +kernel)
def codes1 : List Jvm.Cond := [Jvm.Cond.code x code maxLocals ret, Jvm.Cond.code ({ cls := "com/example/semblance/semblance/condition/TokenSetSharedPinLaw", name := "order", desc := "([III)V" } : Jvm.MethodName) method_3_code (4 : Nat) (Option.none : Option Jvm.ClassFile.FieldType), Jvm.Cond.code ({ cls := "com/example/semblance/semblance/condition/TokenSetSharedPinLaw", name := "pick", desc := "([II)[I" } : Jvm.MethodName) method_5_code (4 : Nat) (Option.some (Jvm.ClassFile.FieldType.array Jvm.ClassFile.FieldType.int)), Jvm.Cond.code ({ cls := "com/example/semblance/semblance/condition/TokenSetSharedPinLaw", name := "count", desc := "(I)I" } : Jvm.MethodName) method_4_code (1 : Nat) (Option.some Jvm.ClassFile.FieldType.int), Jvm.Cond.code ({ cls := "com/example/semblance/semblance/condition/TokenSet", name := "shared", desc := "([I[I)I" } : Jvm.MethodName) prog_43_method_6_code (5 : Nat) (Option.some Jvm.ClassFile.FieldType.int)]
set_option maxRecDepth 65536 in
theorem codes_eq : words1.filter isCode = codes1 := rfl
theorem w_codes : ∀ c ∈ words1.filter isCode, c.before args0 about1 = true := by
  rw [codes_eq]
  intro c hc
  simp only [codes1, List.mem_cons, List.not_mem_nil, or_false] at hc
  rcases hc with rfl | rfl | rfl | rfl | rfl
  · exact w_c0
  · exact w_c1
  · exact w_c2
  · exact w_c3
  · exact w_c4
set_option maxRecDepth 65536 in
theorem w_t1 : words1.all (fun c => isCode c || c.before args0 about1) = true := by decide +kernel
theorem w_tables : (allAtoms (Jvm.Cond.code x code maxLocals ret :: tables_1)).before args0 about1 = true := by
  rw [allAtoms_all]
  show words1.all (fun c => c.before args0 about1) = true
  refine all_split ?_ w_codes
  rw [w_t1]
set_option maxRecDepth 65536 in
theorem w_case : (Jvm.Cond.and given_1 narrow_1).before args0 about1 = true := by decide +kernel
theorem w_applies : (headSpec (Jvm.Cond.code x code maxLocals ret :: tables_1) room_1).applies x e0.platform about1 = true :=
  (Spec.applies_iff w_frames).mpr ⟨w_running, w_runnable, w_alone, w_named, w_hears, w_ripe, w_room, w_tables⟩
theorem atStart : AtStart classFile x code maxLocals ret World_1 tables_1 room_1 Calls_1 rest_1 Pre_1 launch0 p0 e0 about1 theMethod args0 below0 :=
  ⟨lists_1, trivial, launch0.admits_env _ _ _, launch0.least_env, fairChoices_fair.cas, fairChoices_fair.clock, w_frames, w_args, w_heap, w_applies, trivial, trivial, w_case⟩
end start1
theorem witness_1 : WitnessClaimed_1 := ⟨start1.p0, start1.e0, start1.about1, start1.theMethod, start1.args0, start1.below0, start1.atStart⟩
end Jvm.Pilot.@@N@@
