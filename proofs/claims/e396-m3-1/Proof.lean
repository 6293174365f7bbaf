import JvmDerived
import JvmDerived.Pilot.@@N@@Statement
import JvmDerived.Pilot.@@N@@Code
set_option linter.unusedVariables false
set_option linter.unusedSimpArgs false
namespace Jvm.OwnKit
open Sem ClassFile Op Lib Jvm.Stand Jvm.Free Jvm.LawKit Jvm.RoadKit
/-- what stays the same through one method's walk: program, environment, start, method, arguments, frames below, the method's entry and code, the state with which the walk began -/
abbrev Cx := Program × Env × State × MethodId × Array Value × List Frame × Method × Code × State
/-- where a walk stands: heap h, what was written lies at n0 or above, so many new cells and slots, pc, locals, stack -/
def Wk (κ : Cx) (l : Launch) (Z : State) (own nm : String) (code : ByteArray) (ml : Nat) (ret : Option FieldType) (R : Room) (n0 : Nat) (h : Heap) (cells slots pc : Nat) (Ls : Array Slot) (St : List Value) : Prop :=
  match κ with
  | (p, e, s, m, args, below, meth, c, S0) =>
    (p.tables.exec = Jvm.exec ∧ c.code = code ∧ c.maxLocals = ml ∧ meth.sig.returnType = ret ∧ meth.locks = false ∧ meth.name = nm ∧ Z.Warmed39 s.vm ∧ s.vm.findClass own = some m.cls) ∧
    ∃ T locs, Stand p l e R s m args below meth c T locs cells slots ∧ Fr n0 locs ∧ T.heap = h ∧ ∀ t, Steps p.tables e below (T.setTop (mkF m pc Ls St)) t → Steps p.tables e below S0 t
/-- the walk has come to its end -/
def Dn (κ : Cx) (n0 : Nat) (Q : Option Value → Heap → Prop) (cells slots : Nat) : Prop :=
  match κ with
  | (p, e, s, _, _, below, _, _, S0) => ∃ s₂ o, Steps p.tables e below S0 s₂ ∧ s₂.status = .running ∧ Ended s₂ below o ∧ ∃ v L, o = .returned v ∧ (Q v s₂.heap ∧ Fr n0 L) ∧ FrameEnd s o s₂ L cells slots
/-- a method's contract: called with these arguments over this heap it returns, and Q holds of what it returns and of the heap -/
def Met (l : Launch) (Z : State) (y : MethodName) (code : ByteArray) (ml : Nat) (ret : Option FieldType) (R : Room) (n0 : Nat) (as : Array Value) (h0 : Heap) (Q : Option Value → Heap → Prop) : Prop :=
  ∀ ws : List Cond, MetFree l y (head1 (Cond.code y code ml ret :: ws) R) (fun a U => a = as ∧ Z.Warmed39 U.vm ∧ U.heap = h0) (fun _ _ _ _ _ => True) (fun _ U o U' => ∃ v L, o = .returned v ∧ (Q v U'.heap ∧ Fr n0 L) ∧ FrameEnd U o U' L R.cells R.slots)
section Own
variable {κ : Cx} {l : Launch} {Z : State} {own nm : String} {code : ByteArray} {ml : Nat} {ret : Option FieldType} {R : Room} {n0 : Nat} {h : Heap} {cells slots pc q : Nat} {Ls : Array Slot} {St : List Value} {a0 : Array Value}
theorem Met.of {y : MethodName} {as : Array Value} {Q : Option Value → Heap → Prop} (hpl : plainFor y = true) (hef : ∀ m, entryFrame m as ml = mkF m 0 Ls []) (body : ∀ κ, Wk κ l Z y.cls y.name code ml ret R n0 h 0 0 0 Ls [] → Dn κ n0 Q R.cells R.slots) : Met l Z y code ml ret R n0 as h Q := by
  intro ws
  refine MetFree.of_bodySF hpl hisR ?_
  intro p e s m args below meth c s₁ Bd hml0 hP hK
  obtain ⟨ha, hZ, hh⟩ := hP
  have e0 : s₁.heap = h := by rw [← hh, Bd.state]; rfl
  exact body (p, e, s, m, args, below, meth, c, s₁.setTop (entryFrame m args ml)) ⟨⟨Bd.exec, Bd.bytes, hml0, Bd.returns, Bd.notSynchronized, (name_of_methodNamed Bd.named Bd.method).1, hZ, findClass_of_methodNamed Bd.named⟩, s₁, [], Stand.of_body Bd, Fr.nil n0, e0, fun t k => castTop (by rw [ha]; exact hef m) k⟩
theorem Wk.step (w : Wk κ l Z own nm code ml ret R n0 h cells slots pc Ls St) {Ls' : Array Slot} {St' : List Value}
    (f : ∀ {p : Program} {e : Env} {below : List Frame} {m : MethodId} {c : Code} {T t : State}, p.tables.exec = Jvm.exec → c.code = code → At T m c below → Steps p.tables e below (T.setTop (mkF m q Ls' St')) t → Steps p.tables e below (T.setTop (mkF m pc Ls St)) t) : Wk κ l Z own nm code ml ret R n0 h cells slots q Ls' St' := by
  obtain ⟨p, e, s, m, args, below, meth, c, S0⟩ := κ
  obtain ⟨hs, T, locs, X, N, eT, st⟩ := w
  exact ⟨hs, T, locs, X, N, eT, fun t k => st t (f hs.1 hs.2.1 X.here k)⟩
theorem Wk.stepX (w : Wk κ l Z own nm code ml ret R n0 h cells slots pc Ls St) {Ls' : Array Slot} {St' : List Value}
    (f : ∀ {p : Program} {e : Env} {s : State} {m : MethodId} {args : Array Value} {below : List Frame} {meth : Method} {c : Code} {T t : State} {locs : List Loc}, p.tables.exec = Jvm.exec → c.code = code → Z.Warmed39 s.vm → s.vm.findClass own = some m.cls → Stand p l e R s m args below meth c T locs cells slots → T.heap = h → Steps p.tables e below (T.setTop (mkF m q Ls' St')) t → Steps p.tables e below (T.setTop (mkF m pc Ls St)) t) : Wk κ l Z own nm code ml ret R n0 h cells slots q Ls' St' := by
  obtain ⟨p, e, s, m, args, below, meth, c, S0⟩ := κ
  obtain ⟨hs, T, locs, X, N, eT, st⟩ := w
  exact ⟨hs, T, locs, X, N, eT, fun t k => st t (f hs.1 hs.2.1 hs.2.2.2.2.2.2.1 hs.2.2.2.2.2.2.2 X eT k)⟩
theorem Wk.stepT (w : Wk κ l Z own nm code ml ret R n0 h cells slots pc Ls St) {Ls' : Array Slot} {St' : List Value}
    (f : ∀ {p : Program} {e : Env} {s : State} {m : MethodId} {args : Array Value} {below : List Frame} {meth : Method} {c : Code} {T : State} {locs : List Loc}, p.tables.exec = Jvm.exec → c.code = code → c.maxLocals = ml → Z.Warmed39 s.vm → s.vm.findClass own = some m.cls → Stand p l e R s m args below meth c T locs cells slots → T.heap = h → ∃ T', Stand p l e R s m args below meth c T' locs cells slots ∧ T'.heap = h ∧ ∀ t, Steps p.tables e below (T'.setTop (mkF m q Ls' St')) t → Steps p.tables e below (T.setTop (mkF m pc Ls St)) t) : Wk κ l Z own nm code ml ret R n0 h cells slots q Ls' St' := by
  obtain ⟨p, e, s, m, args, below, meth, c, S0⟩ := κ
  obtain ⟨hs, T, locs, X, N, eT, st⟩ := w
  obtain ⟨T', X', eT', st'⟩ := f hs.1 hs.2.1 hs.2.2.1 hs.2.2.2.2.2.2.1 hs.2.2.2.2.2.2.2 X eT
  exact ⟨hs, T', locs, X', N, eT', fun t k => st t (st' t k)⟩
/-! loads, stores, constants -/
theorem Wk.aloadN (w : Wk κ l Z own nm code ml ret R n0 h cells slots pc Ls St) {k : Fin 4} {v : Value} (hd : decode code pc = .ok (.aload_n k, 1)) (hl : Ls[k.val]? = some (.val v)) (hv : v.isRef = true) (hq : pc + 1 = q) : Wk κ l Z own nm code ml ret R n0 h cells slots q Ls (v :: St) := by
  subst hq; exact w.step fun hx hby hat k => XS.aloadN hat hx rfl (hb hby hd) hl hv k
theorem Wk.aload (w : Wk κ l Z own nm code ml ret R n0 h cells slots pc Ls St) {k : Nat} {v : Value} (hd : decode code pc = .ok (.aload k, 2)) (hl : Ls[k]? = some (.val v)) (hv : v.isRef = true) (hq : pc + 2 = q) : Wk κ l Z own nm code ml ret R n0 h cells slots q Ls (v :: St) := by
  subst hq; exact w.step fun hx hby hat k => XS.aload hat hx rfl (hb hby hd) hl hv k
theorem Wk.iloadN (w : Wk κ l Z own nm code ml ret R n0 h cells slots pc Ls St) {k : Fin 4} {v : Int32} (hd : decode code pc = .ok (.iload_n k, 1)) (hl : Ls[k.val]? = some (.val (.int v))) (hq : pc + 1 = q) : Wk κ l Z own nm code ml ret R n0 h cells slots q Ls (.int v :: St) := by
  subst hq; exact w.step fun hx hby hat k => XS.iloadN hat hx rfl (hb hby hd) hl k
theorem Wk.iload (w : Wk κ l Z own nm code ml ret R n0 h cells slots pc Ls St) {k : Nat} {v : Int32} (hd : decode code pc = .ok (.iload k, 2)) (hl : Ls[k]? = some (.val (.int v))) (hq : pc + 2 = q) : Wk κ l Z own nm code ml ret R n0 h cells slots q Ls (.int v :: St) := by
  subst hq; exact w.step fun hx hby hat k => XS.iload hat hx rfl (hb hby hd) hl k
theorem Wk.lloadN (w : Wk κ l Z own nm code ml ret R n0 h cells slots pc Ls St) {k : Fin 4} {v : Int64} (hd : decode code pc = .ok (.lload_n k, 1)) (hl : Ls[k.val]? = some (.val (.long v))) (hq : pc + 1 = q) : Wk κ l Z own nm code ml ret R n0 h cells slots q Ls (.long v :: St) := by
  subst hq; exact w.step fun hx hby hat k => XT.lloadN hat hx rfl (hb hby hd) hl k
theorem Wk.lload (w : Wk κ l Z own nm code ml ret R n0 h cells slots pc Ls St) {k : Nat} {v : Int64} (hd : decode code pc = .ok (.lload k, 2)) (hl : Ls[k]? = some (.val (.long v))) (hq : pc + 2 = q) : Wk κ l Z own nm code ml ret R n0 h cells slots q Ls (.long v :: St) := by
  subst hq; exact w.step fun hx hby hat k => XT.lload hat hx rfl (hb hby hd) hl k
theorem Wk.dloadN (w : Wk κ l Z own nm code ml ret R n0 h cells slots pc Ls St) {k : Fin 4} {v : UInt64} (hd : decode code pc = .ok (.dload_n k, 1)) (hl : Ls[k.val]? = some (.val (.double v))) (hq : pc + 1 = q) : Wk κ l Z own nm code ml ret R n0 h cells slots q Ls (.double v :: St) := by
  subst hq; exact w.step fun hx hby hat k => XS.dloadN hat hx rfl (hb hby hd) hl k
theorem Wk.dload (w : Wk κ l Z own nm code ml ret R n0 h cells slots pc Ls St) {k : Nat} {v : UInt64} (hd : decode code pc = .ok (.dload k, 2)) (hl : Ls[k]? = some (.val (.double v))) (hq : pc + 2 = q) : Wk κ l Z own nm code ml ret R n0 h cells slots q Ls (.double v :: St) := by
  subst hq; exact w.step fun hx hby hat k => XS.dload hat hx rfl (hb hby hd) hl k
theorem Wk.astoreN {v : Value} (w : Wk κ l Z own nm code ml ret R n0 h cells slots pc Ls (v :: St)) {k : Fin 4} {l' : Array Slot} (hd : decode code pc = .ok (.astore_n k, 1)) (hv : v.isRef = true) (hl : storeLocals Ls k.val v = some l') (hq : pc + 1 = q) : Wk κ l Z own nm code ml ret R n0 h cells slots q l' St := by
  subst hq; exact w.step fun hx hby hat k => XS.astoreN hat hx rfl (hb hby hd) rfl hv hl k
theorem Wk.astore {v : Value} (w : Wk κ l Z own nm code ml ret R n0 h cells slots pc Ls (v :: St)) {k : Nat} {l' : Array Slot} (hd : decode code pc = .ok (.astore k, 2)) (hv : v.isRef = true) (hl : storeLocals Ls k v = some l') (hq : pc + 2 = q) : Wk κ l Z own nm code ml ret R n0 h cells slots q l' St := by
  subst hq; exact w.step fun hx hby hat k => XS.astore hat hx rfl (hb hby hd) rfl hv hl k
theorem Wk.istoreN {x : Int32} (w : Wk κ l Z own nm code ml ret R n0 h cells slots pc Ls (.int x :: St)) {k : Fin 4} {l' : Array Slot} (hd : decode code pc = .ok (.istore_n k, 1)) (hl : storeLocals Ls k.val (.int x) = some l') (hq : pc + 1 = q) : Wk κ l Z own nm code ml ret R n0 h cells slots q l' St := by
  subst hq; exact w.step fun hx hby hat k => XS.istoreN hat hx rfl (hb hby hd) rfl hl k
theorem Wk.istore {x : Int32} (w : Wk κ l Z own nm code ml ret R n0 h cells slots pc Ls (.int x :: St)) {k : Nat} {l' : Array Slot} (hd : decode code pc = .ok (.istore k, 2)) (hl : storeLocals Ls k (.int x) = some l') (hq : pc + 2 = q) : Wk κ l Z own nm code ml ret R n0 h cells slots q l' St := by
  subst hq; exact w.step fun hx hby hat k => XS.istore hat hx rfl (hb hby hd) rfl hl k
theorem Wk.lstoreN {x : Int64} (w : Wk κ l Z own nm code ml ret R n0 h cells slots pc Ls (.long x :: St)) {k : Fin 4} {l' : Array Slot} (hd : decode code pc = .ok (.lstore_n k, 1)) (hl : storeLocals Ls k.val (.long x) = some l') (hq : pc + 1 = q) : Wk κ l Z own nm code ml ret R n0 h cells slots q l' St := by
  subst hq; exact w.step fun hx hby hat k => XT.lstoreN hat hx rfl (hb hby hd) rfl hl k
theorem Wk.lstore {x : Int64} (w : Wk κ l Z own nm code ml ret R n0 h cells slots pc Ls (.long x :: St)) {k : Nat} {l' : Array Slot} (hd : decode code pc = .ok (.lstore k, 2)) (hl : storeLocals Ls k (.long x) = some l') (hq : pc + 2 = q) : Wk κ l Z own nm code ml ret R n0 h cells slots q l' St := by
  subst hq; exact w.step fun hx hby hat k => XT.lstore hat hx rfl (hb hby hd) rfl hl k
theorem Wk.dstoreN {x : UInt64} (w : Wk κ l Z own nm code ml ret R n0 h cells slots pc Ls (.double x :: St)) {k : Fin 4} {l' : Array Slot} (hd : decode code pc = .ok (.dstore_n k, 1)) (hl : storeLocals Ls k.val (.double x) = some l') (hq : pc + 1 = q) : Wk κ l Z own nm code ml ret R n0 h cells slots q l' St := by
  subst hq; exact w.step fun hx hby hat k => XS.dstoreN hat hx rfl (hb hby hd) rfl hl k
theorem Wk.dstore {x : UInt64} (w : Wk κ l Z own nm code ml ret R n0 h cells slots pc Ls (.double x :: St)) {k : Nat} {l' : Array Slot} (hd : decode code pc = .ok (.dstore k, 2)) (hl : storeLocals Ls k (.double x) = some l') (hq : pc + 2 = q) : Wk κ l Z own nm code ml ret R n0 h cells slots q l' St := by
  subst hq; exact w.step fun hx hby hat k => XS.dstore hat hx rfl (hb hby hd) rfl hl k
theorem Wk.iconst (w : Wk κ l Z own nm code ml ret R n0 h cells slots pc Ls St) {i : Int} {z : Int32} (hd : decode code pc = .ok (.iconst i, 1)) (hz : Int32.ofInt i = z) (hq : pc + 1 = q) : Wk κ l Z own nm code ml ret R n0 h cells slots q Ls (.int z :: St) := by
  subst hq hz; exact w.step fun hx hby hat k => XS.iconst hat hx rfl (hb hby hd) k
theorem Wk.bipush (w : Wk κ l Z own nm code ml ret R n0 h cells slots pc Ls St) {i : Int} {z : Int32} (hd : decode code pc = .ok (.bipush i, 2)) (hz : (Int8.ofInt i).toInt32 = z) (hq : pc + 2 = q) : Wk κ l Z own nm code ml ret R n0 h cells slots q Ls (.int z :: St) := by
  subst hq hz; exact w.step fun hx hby hat k => XS.bipush hat hx rfl (hb hby hd) k
theorem Wk.sipush (w : Wk κ l Z own nm code ml ret R n0 h cells slots pc Ls St) {i : Int} {z : Int32} (hd : decode code pc = .ok (.sipush i, 3)) (hz : (Int16.ofInt i).toInt32 = z) (hq : pc + 3 = q) : Wk κ l Z own nm code ml ret R n0 h cells slots q Ls (.int z :: St) := by
  subst hq hz; exact w.step fun hx hby hat k => XS.sipush hat hx rfl (hb hby hd) k
theorem Wk.lconst (w : Wk κ l Z own nm code ml ret R n0 h cells slots pc Ls St) {i : Fin 2} {z : Int64} (hd : decode code pc = .ok (.lconst i, 1)) (hz : Int64.ofNat i = z) (hq : pc + 1 = q) : Wk κ l Z own nm code ml ret R n0 h cells slots q Ls (.long z :: St) := by
  subst hq hz; exact w.step fun hx hby hat k => XT.lconst hat hx rfl (hb hby hd) k
theorem Wk.dconst0 (w : Wk κ l Z own nm code ml ret R n0 h cells slots pc Ls St) {z : UInt64} (hd : decode code pc = .ok (.dconst 0, 1)) (hz : FP.dconst0 = z) (hq : pc + 1 = q) : Wk κ l Z own nm code ml ret R n0 h cells slots q Ls (.double z :: St) := by
  subst hq; exact w.step fun hx hby hat k => XS.dconst0 hat hx rfl (hb hby hd) hz k
theorem Wk.ldcI (w : Wk κ l Z own nm code ml ret R n0 h cells slots pc Ls St) {i : Nat} {z : Int32} (wd : (Cond.constant own i z).before a0 Z = true) (hd : decode code pc = .ok (.ldc i, 2)) (hq : pc + 2 = q) : Wk κ l Z own nm code ml ret R n0 h cells slots q Ls (.int z :: St) := by
  subst hq; exact w.stepX fun hx hby hZ hown X _ k => X.ldcInt hx hown (mvT hZ wd) (g := mkF _ pc Ls St) rfl (hb hby hd) _ k
theorem Wk.ldcWI (w : Wk κ l Z own nm code ml ret R n0 h cells slots pc Ls St) {i : Nat} {z : Int32} (wd : (Cond.constant own i z).before a0 Z = true) (hd : decode code pc = .ok (.ldc_w i, 3)) (hq : pc + 3 = q) : Wk κ l Z own nm code ml ret R n0 h cells slots q Ls (.int z :: St) := by
  subst hq; exact w.stepX fun hx hby hZ hown X _ k => X.ldcWI hx hown (mvT hZ wd) (g := mkF _ pc Ls St) rfl (hb hby hd) k
theorem Wk.ldcJ (w : Wk κ l Z own nm code ml ret R n0 h cells slots pc Ls St) {i : Nat} {z : Int64} (wd : (Cond.constantLong own i z).before a0 Z = true) (hd : decode code pc = .ok (.ldc2_w i, 3)) (hq : pc + 3 = q) : Wk κ l Z own nm code ml ret R n0 h cells slots q Ls (.long z :: St) := by
  subst hq; exact w.stepX fun hx hby hZ hown X _ k => X.ldc2Long hx hown (mvT hZ wd) (g := mkF _ pc Ls St) rfl (hb hby hd) _ k
theorem Wk.ldcD (w : Wk κ l Z own nm code ml ret R n0 h cells slots pc Ls St) {i : Nat} {z : UInt64} (wd : (Cond.constantDouble own i z).before a0 Z = true) (hd : decode code pc = .ok (.ldc2_w i, 3)) (hq : pc + 3 = q) : Wk κ l Z own nm code ml ret R n0 h cells slots q Ls (.double z :: St) := by
  subst hq; exact w.stepX fun hx hby hZ hown X _ k => X.ldc2DoubleC hx hown (mvT hZ wd) (g := mkF _ pc Ls St) rfl (hb hby hd) _ k
theorem Wk.dup {v : Value} (w : Wk κ l Z own nm code ml ret R n0 h cells slots pc Ls (v :: St)) (hd : decode code pc = .ok (.dup, 1)) (hc : v.category = 1) (hq : pc + 1 = q) : Wk κ l Z own nm code ml ret R n0 h cells slots q Ls (v :: v :: St) := by
  subst hq; exact w.step fun hx hby hat k => XS.dup hat hx rfl (hb hby hd) rfl hc k
theorem Wk.dupX1 {v u : Value} (w : Wk κ l Z own nm code ml ret R n0 h cells slots pc Ls (v :: u :: St)) (hd : decode code pc = .ok (.dup_x1, 1)) (hc : v.category = 1) (hc' : u.category = 1) (hq : pc + 1 = q) : Wk κ l Z own nm code ml ret R n0 h cells slots q Ls (v :: u :: v :: St) := by
  subst hq; exact w.step fun hx hby hat k => XT.dupX1 hat hx rfl (hb hby hd) rfl hc hc' k
theorem Wk.dup2 {v u : Value} (w : Wk κ l Z own nm code ml ret R n0 h cells slots pc Ls (v :: u :: St)) (hd : decode code pc = .ok (.dup2, 1)) (hc : v.category = 1) (hc' : u.category = 1) (hq : pc + 1 = q) : Wk κ l Z own nm code ml ret R n0 h cells slots q Ls (v :: u :: v :: u :: St) := by
  subst hq; exact w.step fun hx hby hat k => XT.dup2 hat hx rfl (hb hby hd) rfl hc hc' k
theorem Wk.pop {v : Value} (w : Wk κ l Z own nm code ml ret R n0 h cells slots pc Ls (v :: St)) (hd : decode code pc = .ok (.pop, 1)) (hc : v.category = 1) (hq : pc + 1 = q) : Wk κ l Z own nm code ml ret R n0 h cells slots q Ls St := by
  subst hq; exact w.step fun hx hby hat k => XT.pop hat hx rfl (hb hby hd) rfl hc k
theorem Wk.iinc (w : Wk κ l Z own nm code ml ret R n0 h cells slots pc Ls St) {k : Nat} {i : Int} {x z : Int32} {l' : Array Slot} (hd : decode code pc = .ok (.iinc k i, 3)) (hl : Ls[k]? = some (.val (.int x))) (hz : x + Int32.ofInt i = z) (hl' : storeLocals Ls k (.int z) = some l') (hq : pc + 3 = q) : Wk κ l Z own nm code ml ret R n0 h cells slots q l' St := by
  subst hq hz; exact w.step fun hx hby hat k => XS.iinc hat hx rfl (hb hby hd) hl hl' k
theorem Wk.iadd {x y z : Int32} (w : Wk κ l Z own nm code ml ret R n0 h cells slots pc Ls (.int y :: .int x :: St)) (hd : decode code pc = .ok (.iadd, 1)) (hz : x + y = z) (hq : pc + 1 = q) : Wk κ l Z own nm code ml ret R n0 h cells slots q Ls (.int z :: St) := by
  subst hq hz; exact w.step fun hx hby hat k => XS.iadd hat hx rfl (hb hby hd) rfl k
theorem Wk.isub {x y z : Int32} (w : Wk κ l Z own nm code ml ret R n0 h cells slots pc Ls (.int y :: .int x :: St)) (hd : decode code pc = .ok (.isub, 1)) (hz : x - y = z) (hq : pc + 1 = q) : Wk κ l Z own nm code ml ret R n0 h cells slots q Ls (.int z :: St) := by
  subst hq hz; exact w.step fun hx hby hat k => XS.isub hat hx rfl (hb hby hd) rfl k
theorem Wk.imul {x y z : Int32} (w : Wk κ l Z own nm code ml ret R n0 h cells slots pc Ls (.int y :: .int x :: St)) (hd : decode code pc = .ok (.imul, 1)) (hz : x * y = z) (hq : pc + 1 = q) : Wk κ l Z own nm code ml ret R n0 h cells slots q Ls (.int z :: St) := by
  subst hq hz; exact w.step fun hx hby hat k => XS.imul hat hx rfl (hb hby hd) rfl k
theorem Wk.iand {x y z : Int32} (w : Wk κ l Z own nm code ml ret R n0 h cells slots pc Ls (.int y :: .int x :: St)) (hd : decode code pc = .ok (.iand, 1)) (hz : x &&& y = z) (hq : pc + 1 = q) : Wk κ l Z own nm code ml ret R n0 h cells slots q Ls (.int z :: St) := by
  subst hq hz; exact w.step fun hx hby hat k => XS.iand hat hx rfl (hb hby hd) rfl k
theorem Wk.ior {x y z : Int32} (w : Wk κ l Z own nm code ml ret R n0 h cells slots pc Ls (.int y :: .int x :: St)) (hd : decode code pc = .ok (.ior, 1)) (hz : x ||| y = z) (hq : pc + 1 = q) : Wk κ l Z own nm code ml ret R n0 h cells slots q Ls (.int z :: St) := by
  subst hq hz; exact w.step fun hx hby hat k => XT.ior hat hx rfl (hb hby hd) rfl k
theorem Wk.ixor {x y z : Int32} (w : Wk κ l Z own nm code ml ret R n0 h cells slots pc Ls (.int y :: .int x :: St)) (hd : decode code pc = .ok (.ixor, 1)) (hz : x ^^^ y = z) (hq : pc + 1 = q) : Wk κ l Z own nm code ml ret R n0 h cells slots q Ls (.int z :: St) := by
  subst hq hz; exact w.step fun hx hby hat k => XT.ixor hat hx rfl (hb hby hd) rfl k
theorem Wk.ishl {x y z : Int32} (w : Wk κ l Z own nm code ml ret R n0 h cells slots pc Ls (.int y :: .int x :: St)) (hd : decode code pc = .ok (.ishl, 1)) (hz : x <<< (y &&& 31) = z) (hq : pc + 1 = q) : Wk κ l Z own nm code ml ret R n0 h cells slots q Ls (.int z :: St) := by
  subst hq hz; exact w.step fun hx hby hat k => XT.ishl hat hx rfl (hb hby hd) rfl k
theorem Wk.ishr {x y z : Int32} (w : Wk κ l Z own nm code ml ret R n0 h cells slots pc Ls (.int y :: .int x :: St)) (hd : decode code pc = .ok (.ishr, 1)) (hz : x >>> (y &&& 31) = z) (hq : pc + 1 = q) : Wk κ l Z own nm code ml ret R n0 h cells slots q Ls (.int z :: St) := by
  subst hq hz; exact w.step fun hx hby hat k => XT.ishr hat hx rfl (hb hby hd) rfl k
theorem Wk.iushr {x y z : Int32} (w : Wk κ l Z own nm code ml ret R n0 h cells slots pc Ls (.int y :: .int x :: St)) (hd : decode code pc = .ok (.iushr, 1)) (hz : XT.ushr x y = z) (hq : pc + 1 = q) : Wk κ l Z own nm code ml ret R n0 h cells slots q Ls (.int z :: St) := by
  subst hq hz; exact w.step fun hx hby hat k => XT.iushr hat hx rfl (hb hby hd) rfl k
theorem Wk.idiv {x y z : Int32} (w : Wk κ l Z own nm code ml ret R n0 h cells slots pc Ls (.int y :: .int x :: St)) (hd : decode code pc = .ok (.idiv, 1)) (hy : y ≠ 0) (hz : x / y = z) (hq : pc + 1 = q) : Wk κ l Z own nm code ml ret R n0 h cells slots q Ls (.int z :: St) := by
  subst hq hz; exact w.step fun hx hby hat k => XS.idiv hat hx rfl (hb hby hd) rfl hy k
theorem Wk.ladd {x y z : Int64} (w : Wk κ l Z own nm code ml ret R n0 h cells slots pc Ls (.long y :: .long x :: St)) (hd : decode code pc = .ok (.ladd, 1)) (hz : x + y = z) (hq : pc + 1 = q) : Wk κ l Z own nm code ml ret R n0 h cells slots q Ls (.long z :: St) := by
  subst hq hz; exact w.step fun hx hby hat k => XT.ladd hat hx rfl (hb hby hd) rfl k
theorem Wk.lsub {x y z : Int64} (w : Wk κ l Z own nm code ml ret R n0 h cells slots pc Ls (.long y :: .long x :: St)) (hd : decode code pc = .ok (.lsub, 1)) (hz : x - y = z) (hq : pc + 1 = q) : Wk κ l Z own nm code ml ret R n0 h cells slots q Ls (.long z :: St) := by
  subst hq hz; exact w.step fun hx hby hat k => XT.lsub hat hx rfl (hb hby hd) rfl k
theorem Wk.lmul {x y z : Int64} (w : Wk κ l Z own nm code ml ret R n0 h cells slots pc Ls (.long y :: .long x :: St)) (hd : decode code pc = .ok (.lmul, 1)) (hz : x * y = z) (hq : pc + 1 = q) : Wk κ l Z own nm code ml ret R n0 h cells slots q Ls (.long z :: St) := by
  subst hq hz; exact w.step fun hx hby hat k => XT.lmul hat hx rfl (hb hby hd) rfl k
theorem Wk.land {x y z : Int64} (w : Wk κ l Z own nm code ml ret R n0 h cells slots pc Ls (.long y :: .long x :: St)) (hd : decode code pc = .ok (.land, 1)) (hz : x &&& y = z) (hq : pc + 1 = q) : Wk κ l Z own nm code ml ret R n0 h cells slots q Ls (.long z :: St) := by
  subst hq hz; exact w.step fun hx hby hat k => XT.land hat hx rfl (hb hby hd) rfl k
theorem Wk.lor {x y z : Int64} (w : Wk κ l Z own nm code ml ret R n0 h cells slots pc Ls (.long y :: .long x :: St)) (hd : decode code pc = .ok (.lor, 1)) (hz : x ||| y = z) (hq : pc + 1 = q) : Wk κ l Z own nm code ml ret R n0 h cells slots q Ls (.long z :: St) := by
  subst hq hz; exact w.step fun hx hby hat k => XT.lor hat hx rfl (hb hby hd) rfl k
theorem Wk.lxor {x y z : Int64} (w : Wk κ l Z own nm code ml ret R n0 h cells slots pc Ls (.long y :: .long x :: St)) (hd : decode code pc = .ok (.lxor, 1)) (hz : x ^^^ y = z) (hq : pc + 1 = q) : Wk κ l Z own nm code ml ret R n0 h cells slots q Ls (.long z :: St) := by
  subst hq hz; exact w.step fun hx hby hat k => XT.lxor hat hx rfl (hb hby hd) rfl k
theorem Wk.irem {x y z : Int32} (w : Wk κ l Z own nm code ml ret R n0 h cells slots pc Ls (.int y :: .int x :: St)) (hd : decode code pc = .ok (.irem, 1)) (hy : y ≠ 0) (hz : x % y = z) (hq : pc + 1 = q) : Wk κ l Z own nm code ml ret R n0 h cells slots q Ls (.int z :: St) := by
  subst hq hz; exact w.stepX fun hx hby _ _ X _ k => iremM X hx rfl (hb hby hd) rfl hy k
theorem Wk.lshl {x z : Int64} {y : Int32} (w : Wk κ l Z own nm code ml ret R n0 h cells slots pc Ls (.int y :: .long x :: St)) (hd : decode code pc = .ok (.lshl, 1)) (hz : x <<< (y.toInt64 &&& 63) = z) (hq : pc + 1 = q) : Wk κ l Z own nm code ml ret R n0 h cells slots q Ls (.long z :: St) := by
  subst hq hz; exact w.step fun hx hby hat k => XT.lshl hat hx rfl (hb hby hd) rfl k
theorem Wk.lshr {x z : Int64} {y : Int32} (w : Wk κ l Z own nm code ml ret R n0 h cells slots pc Ls (.int y :: .long x :: St)) (hd : decode code pc = .ok (.lshr, 1)) (hz : x >>> (y.toInt64 &&& 63) = z) (hq : pc + 1 = q) : Wk κ l Z own nm code ml ret R n0 h cells slots q Ls (.long z :: St) := by
  subst hq hz; exact w.step fun hx hby hat k => XT.lshr hat hx rfl (hb hby hd) rfl k
theorem Wk.lushr {x z : Int64} {y : Int32} (w : Wk κ l Z own nm code ml ret R n0 h cells slots pc Ls (.int y :: .long x :: St)) (hd : decode code pc = .ok (.lushr, 1)) (hz : XT.ushrL x y = z) (hq : pc + 1 = q) : Wk κ l Z own nm code ml ret R n0 h cells slots q Ls (.long z :: St) := by
  subst hq hz; exact w.step fun hx hby hat k => XT.lushr hat hx rfl (hb hby hd) rfl k
theorem Wk.lcmp {x y : Int64} {z : Int32} (w : Wk κ l Z own nm code ml ret R n0 h cells slots pc Ls (.long y :: .long x :: St)) (hd : decode code pc = .ok (.lcmp, 1)) (hz : XT.cmpL x y = z) (hq : pc + 1 = q) : Wk κ l Z own nm code ml ret R n0 h cells slots q Ls (.int z :: St) := by
  subst hq hz; exact w.step fun hx hby hat k => XT.lcmp hat hx rfl (hb hby hd) rfl k
theorem Wk.i2l {x : Int32} {z : Int64} (w : Wk κ l Z own nm code ml ret R n0 h cells slots pc Ls (.int x :: St)) (hd : decode code pc = .ok (.i2l, 1)) (hz : x.toInt64 = z) (hq : pc + 1 = q) : Wk κ l Z own nm code ml ret R n0 h cells slots q Ls (.long z :: St) := by
  subst hq hz; exact w.step fun hx hby hat k => XT.i2l hat hx rfl (hb hby hd) rfl k
theorem Wk.l2i {x : Int64} {z : Int32} (w : Wk κ l Z own nm code ml ret R n0 h cells slots pc Ls (.long x :: St)) (hd : decode code pc = .ok (.l2i, 1)) (hz : x.toInt32 = z) (hq : pc + 1 = q) : Wk κ l Z own nm code ml ret R n0 h cells slots q Ls (.int z :: St) := by
  subst hq hz; exact w.step fun hx hby hat k => XT.l2i hat hx rfl (hb hby hd) rfl k
theorem Wk.i2b {x : Int32} {z : Int32} (w : Wk κ l Z own nm code ml ret R n0 h cells slots pc Ls (.int x :: St)) (hd : decode code pc = .ok (.i2b, 1)) (hz : x.toInt8.toInt32 = z) (hq : pc + 1 = q) : Wk κ l Z own nm code ml ret R n0 h cells slots q Ls (.int z :: St) := by
  subst hq hz; exact w.step fun hx hby hat k => XT.i2b hat hx rfl (hb hby hd) rfl k
theorem Wk.i2c {x : Int32} {z : Int32} (w : Wk κ l Z own nm code ml ret R n0 h cells slots pc Ls (.int x :: St)) (hd : decode code pc = .ok (.i2c, 1)) (hz : x.toUInt32.toUInt16.toUInt32.toInt32 = z) (hq : pc + 1 = q) : Wk κ l Z own nm code ml ret R n0 h cells slots q Ls (.int z :: St) := by
  subst hq hz; exact w.step fun hx hby hat k => XT.i2c hat hx rfl (hb hby hd) rfl k
theorem Wk.i2d {x : Int32} {z : UInt64} (w : Wk κ l Z own nm code ml ret R n0 h cells slots pc Ls (.int x :: St)) (hd : decode code pc = .ok (.i2d, 1)) (hz : FP.i2d x = z) (hq : pc + 1 = q) : Wk κ l Z own nm code ml ret R n0 h cells slots q Ls (.double z :: St) := by
  subst hq; exact w.step fun hx hby hat k => XS.i2dS hat hx rfl (hb hby hd) rfl hz k
theorem Wk.dcmp {o : CmpOp} {x y : UInt64} {z : Int32} (w : Wk κ l Z own nm code ml ret R n0 h cells slots pc Ls (.double y :: .double x :: St)) (hd : decode code pc = .ok (.dcmp o, 1)) (hz : cmpValue (FP.dcmp x y) o = z) (hq : pc + 1 = q) : Wk κ l Z own nm code ml ret R n0 h cells slots q Ls (.int z :: St) := by
  subst hq; exact w.step fun hx hby hat k => XS.dcmpS hat hx rfl (hb hby hd) rfl hz k
theorem Wk.dadd {x y z : UInt64} (w : Wk κ l Z own nm code ml ret R n0 h cells slots pc Ls (.double y :: .double x :: St)) (hd : decode code pc = .ok (.dadd, 1)) (hn : Jvm.Free.Fl.NoNaN64 (FP.dadd x y)) (hz : FP.dadd x y = z) (hq : pc + 1 = q) : Wk κ l Z own nm code ml ret R n0 h cells slots q Ls (.double z :: St) := by
  subst hq; exact w.step fun hx hby hat k => XS.daddS hat hx rfl (hb hby hd) rfl hn hz k
theorem Wk.dsub {x y z : UInt64} (w : Wk κ l Z own nm code ml ret R n0 h cells slots pc Ls (.double y :: .double x :: St)) (hd : decode code pc = .ok (.dsub, 1)) (hn : Jvm.Free.Fl.NoNaN64 (FP.dsub x y)) (hz : FP.dsub x y = z) (hq : pc + 1 = q) : Wk κ l Z own nm code ml ret R n0 h cells slots q Ls (.double z :: St) := by
  subst hq; exact w.step fun hx hby hat k => XS.dsubS hat hx rfl (hb hby hd) rfl hn hz k
theorem Wk.ddiv {x y z : UInt64} (w : Wk κ l Z own nm code ml ret R n0 h cells slots pc Ls (.double y :: .double x :: St)) (hd : decode code pc = .ok (.ddiv, 1)) (hn : Jvm.Free.Fl.NoNaN64 (FP.ddiv x y)) (hz : FP.ddiv x y = z) (hq : pc + 1 = q) : Wk κ l Z own nm code ml ret R n0 h cells slots q Ls (.double z :: St) := by
  subst hq; exact w.step fun hx hby hat k => XS.ddivS hat hx rfl (hb hby hd) rfl hn hz k
theorem Wk.goto (w : Wk κ l Z own nm code ml ret R n0 h cells slots pc Ls St) {o : Int} (hd : decode code pc = .ok (.goto o, 3)) (ho : 0 ≤ (pc : Int) + o) (hq : ((pc : Int) + o).toNat = q) : Wk κ l Z own nm code ml ret R n0 h cells slots q Ls St :=
  w.step fun hx hby hat k => XS.goto hat hx rfl rfl (hb hby hd) ho hq k
theorem holdEq (x y : Int32) : if_icmp.holds .eq x y = decide (x.toInt = y.toInt) := by
  show (x == y) = _
  rw [Bool.eq_iff_iff, beq_iff_eq, decide_eq_true_iff, Int32.toInt_inj]
theorem holdNe (x y : Int32) : if_icmp.holds .ne x y = decide (x.toInt ≠ y.toInt) := by
  show (x != y) = _
  rw [Bool.eq_iff_iff, bne_iff_ne, decide_eq_true_iff, ne_eq, ne_eq, Int32.toInt_inj]
theorem holdLt (x y : Int32) : if_icmp.holds .lt x y = decide (x.toInt < y.toInt) := by simp [if_icmp.holds, Int32.lt_iff_toInt_lt, Int32.le_iff_toInt_le, ← Int32.toInt_inj]
theorem holdGe (x y : Int32) : if_icmp.holds .ge x y = decide (y.toInt ≤ x.toInt) := by simp [if_icmp.holds, Int32.lt_iff_toInt_lt, Int32.le_iff_toInt_le, ← Int32.toInt_inj]
theorem holdGt (x y : Int32) : if_icmp.holds .gt x y = decide (y.toInt < x.toInt) := by simp [if_icmp.holds, Int32.lt_iff_toInt_lt, Int32.le_iff_toInt_le, ← Int32.toInt_inj]
theorem holdLe (x y : Int32) : if_icmp.holds .le x y = decide (x.toInt ≤ y.toInt) := by simp [if_icmp.holds, Int32.lt_iff_toInt_lt, Int32.le_iff_toInt_le, ← Int32.toInt_inj]
theorem Wk.icmpEq {x y : Int32} (w : Wk κ l Z own nm code ml ret R n0 h cells slots pc Ls (.int y :: .int x :: St)) {o : Int} {q' : Nat} {xi yi : Int} (hd : decode code pc = .ok (.if_icmp .eq o, 3)) (hx0 : x.toInt = xi) (hy0 : y.toInt = yi) (ho : 0 ≤ (pc : Int) + o) (hq : ((pc : Int) + o).toNat = q) (hq' : pc + 3 = q') : (xi = yi ∧ Wk κ l Z own nm code ml ret R n0 h cells slots q Ls St) ∨ (¬ (xi = yi) ∧ Wk κ l Z own nm code ml ret R n0 h cells slots q' Ls St) := by
  subst hx0 hy0 hq'
  by_cases hc : x.toInt = y.toInt
  · exact Or.inl ⟨hc, w.step fun hx hby hat k => XS.icmpYes hat hx rfl rfl (hb hby hd) rfl (by rw [holdEq]; exact decide_eq_true hc) ho hq k⟩
  · exact Or.inr ⟨hc, w.step fun hx hby hat k => XS.icmpNo hat hx rfl (hb hby hd) rfl (by rw [holdEq]; exact decide_eq_false hc) k⟩
theorem Wk.icmpNe {x y : Int32} (w : Wk κ l Z own nm code ml ret R n0 h cells slots pc Ls (.int y :: .int x :: St)) {o : Int} {q' : Nat} {xi yi : Int} (hd : decode code pc = .ok (.if_icmp .ne o, 3)) (hx0 : x.toInt = xi) (hy0 : y.toInt = yi) (ho : 0 ≤ (pc : Int) + o) (hq : ((pc : Int) + o).toNat = q) (hq' : pc + 3 = q') : (xi ≠ yi ∧ Wk κ l Z own nm code ml ret R n0 h cells slots q Ls St) ∨ (¬ (xi ≠ yi) ∧ Wk κ l Z own nm code ml ret R n0 h cells slots q' Ls St) := by
  subst hx0 hy0 hq'
  by_cases hc : x.toInt ≠ y.toInt
  · exact Or.inl ⟨hc, w.step fun hx hby hat k => XS.icmpYes hat hx rfl rfl (hb hby hd) rfl (by rw [holdNe]; exact decide_eq_true hc) ho hq k⟩
  · exact Or.inr ⟨hc, w.step fun hx hby hat k => XS.icmpNo hat hx rfl (hb hby hd) rfl (by rw [holdNe]; exact decide_eq_false hc) k⟩
theorem Wk.icmpLt {x y : Int32} (w : Wk κ l Z own nm code ml ret R n0 h cells slots pc Ls (.int y :: .int x :: St)) {o : Int} {q' : Nat} {xi yi : Int} (hd : decode code pc = .ok (.if_icmp .lt o, 3)) (hx0 : x.toInt = xi) (hy0 : y.toInt = yi) (ho : 0 ≤ (pc : Int) + o) (hq : ((pc : Int) + o).toNat = q) (hq' : pc + 3 = q') : (xi < yi ∧ Wk κ l Z own nm code ml ret R n0 h cells slots q Ls St) ∨ (¬ (xi < yi) ∧ Wk κ l Z own nm code ml ret R n0 h cells slots q' Ls St) := by
  subst hx0 hy0 hq'
  by_cases hc : x.toInt < y.toInt
  · exact Or.inl ⟨hc, w.step fun hx hby hat k => XS.icmpYes hat hx rfl rfl (hb hby hd) rfl (by rw [holdLt]; exact decide_eq_true hc) ho hq k⟩
  · exact Or.inr ⟨hc, w.step fun hx hby hat k => XS.icmpNo hat hx rfl (hb hby hd) rfl (by rw [holdLt]; exact decide_eq_false hc) k⟩
theorem Wk.icmpGe {x y : Int32} (w : Wk κ l Z own nm code ml ret R n0 h cells slots pc Ls (.int y :: .int x :: St)) {o : Int} {q' : Nat} {xi yi : Int} (hd : decode code pc = .ok (.if_icmp .ge o, 3)) (hx0 : x.toInt = xi) (hy0 : y.toInt = yi) (ho : 0 ≤ (pc : Int) + o) (hq : ((pc : Int) + o).toNat = q) (hq' : pc + 3 = q') : (yi ≤ xi ∧ Wk κ l Z own nm code ml ret R n0 h cells slots q Ls St) ∨ (¬ (yi ≤ xi) ∧ Wk κ l Z own nm code ml ret R n0 h cells slots q' Ls St) := by
  subst hx0 hy0 hq'
  by_cases hc : y.toInt ≤ x.toInt
  · exact Or.inl ⟨hc, w.step fun hx hby hat k => XS.icmpYes hat hx rfl rfl (hb hby hd) rfl (by rw [holdGe]; exact decide_eq_true hc) ho hq k⟩
  · exact Or.inr ⟨hc, w.step fun hx hby hat k => XS.icmpNo hat hx rfl (hb hby hd) rfl (by rw [holdGe]; exact decide_eq_false hc) k⟩
theorem Wk.icmpGt {x y : Int32} (w : Wk κ l Z own nm code ml ret R n0 h cells slots pc Ls (.int y :: .int x :: St)) {o : Int} {q' : Nat} {xi yi : Int} (hd : decode code pc = .ok (.if_icmp .gt o, 3)) (hx0 : x.toInt = xi) (hy0 : y.toInt = yi) (ho : 0 ≤ (pc : Int) + o) (hq : ((pc : Int) + o).toNat = q) (hq' : pc + 3 = q') : (yi < xi ∧ Wk κ l Z own nm code ml ret R n0 h cells slots q Ls St) ∨ (¬ (yi < xi) ∧ Wk κ l Z own nm code ml ret R n0 h cells slots q' Ls St) := by
  subst hx0 hy0 hq'
  by_cases hc : y.toInt < x.toInt
  · exact Or.inl ⟨hc, w.step fun hx hby hat k => XS.icmpYes hat hx rfl rfl (hb hby hd) rfl (by rw [holdGt]; exact decide_eq_true hc) ho hq k⟩
  · exact Or.inr ⟨hc, w.step fun hx hby hat k => XS.icmpNo hat hx rfl (hb hby hd) rfl (by rw [holdGt]; exact decide_eq_false hc) k⟩
theorem Wk.icmpLe {x y : Int32} (w : Wk κ l Z own nm code ml ret R n0 h cells slots pc Ls (.int y :: .int x :: St)) {o : Int} {q' : Nat} {xi yi : Int} (hd : decode code pc = .ok (.if_icmp .le o, 3)) (hx0 : x.toInt = xi) (hy0 : y.toInt = yi) (ho : 0 ≤ (pc : Int) + o) (hq : ((pc : Int) + o).toNat = q) (hq' : pc + 3 = q') : (xi ≤ yi ∧ Wk κ l Z own nm code ml ret R n0 h cells slots q Ls St) ∨ (¬ (xi ≤ yi) ∧ Wk κ l Z own nm code ml ret R n0 h cells slots q' Ls St) := by
  subst hx0 hy0 hq'
  by_cases hc : x.toInt ≤ y.toInt
  · exact Or.inl ⟨hc, w.step fun hx hby hat k => XS.icmpYes hat hx rfl rfl (hb hby hd) rfl (by rw [holdLe]; exact decide_eq_true hc) ho hq k⟩
  · exact Or.inr ⟨hc, w.step fun hx hby hat k => XS.icmpNo hat hx rfl (hb hby hd) rfl (by rw [holdLe]; exact decide_eq_false hc) k⟩
theorem Wk.ifEq {x : Int32} (w : Wk κ l Z own nm code ml ret R n0 h cells slots pc Ls (.int x :: St)) {o : Int} {q' : Nat} {xi : Int} (hd : decode code pc = .ok (.ifCond .eq o, 3)) (hx0 : x.toInt = xi) (ho : 0 ≤ (pc : Int) + o) (hq : ((pc : Int) + o).toNat = q) (hq' : pc + 3 = q') : (xi = 0 ∧ Wk κ l Z own nm code ml ret R n0 h cells slots q Ls St) ∨ (¬ (xi = 0) ∧ Wk κ l Z own nm code ml ret R n0 h cells slots q' Ls St) := by
  subst hx0 hq'
  have h0 : (0 : Int32).toInt = 0 := rfl
  by_cases hc : x.toInt = 0
  · exact Or.inl ⟨hc, w.step fun hx hby hat k => XS.ifYes hat hx rfl rfl (hb hby hd) rfl (by rw [if0, holdEq, h0]; exact decide_eq_true hc) ho hq k⟩
  · exact Or.inr ⟨hc, w.step fun hx hby hat k => XS.ifNo hat hx rfl (hb hby hd) rfl (by rw [if0, holdEq, h0]; exact decide_eq_false hc) k⟩
theorem Wk.ifNe {x : Int32} (w : Wk κ l Z own nm code ml ret R n0 h cells slots pc Ls (.int x :: St)) {o : Int} {q' : Nat} {xi : Int} (hd : decode code pc = .ok (.ifCond .ne o, 3)) (hx0 : x.toInt = xi) (ho : 0 ≤ (pc : Int) + o) (hq : ((pc : Int) + o).toNat = q) (hq' : pc + 3 = q') : (xi ≠ 0 ∧ Wk κ l Z own nm code ml ret R n0 h cells slots q Ls St) ∨ (¬ (xi ≠ 0) ∧ Wk κ l Z own nm code ml ret R n0 h cells slots q' Ls St) := by
  subst hx0 hq'
  have h0 : (0 : Int32).toInt = 0 := rfl
  by_cases hc : x.toInt ≠ 0
  · exact Or.inl ⟨hc, w.step fun hx hby hat k => XS.ifYes hat hx rfl rfl (hb hby hd) rfl (by rw [if0, holdNe, h0]; exact decide_eq_true hc) ho hq k⟩
  · exact Or.inr ⟨hc, w.step fun hx hby hat k => XS.ifNo hat hx rfl (hb hby hd) rfl (by rw [if0, holdNe, h0]; exact decide_eq_false hc) k⟩
theorem Wk.ifLt {x : Int32} (w : Wk κ l Z own nm code ml ret R n0 h cells slots pc Ls (.int x :: St)) {o : Int} {q' : Nat} {xi : Int} (hd : decode code pc = .ok (.ifCond .lt o, 3)) (hx0 : x.toInt = xi) (ho : 0 ≤ (pc : Int) + o) (hq : ((pc : Int) + o).toNat = q) (hq' : pc + 3 = q') : (xi < 0 ∧ Wk κ l Z own nm code ml ret R n0 h cells slots q Ls St) ∨ (¬ (xi < 0) ∧ Wk κ l Z own nm code ml ret R n0 h cells slots q' Ls St) := by
  subst hx0 hq'
  have h0 : (0 : Int32).toInt = 0 := rfl
  by_cases hc : x.toInt < 0
  · exact Or.inl ⟨hc, w.step fun hx hby hat k => XS.ifYes hat hx rfl rfl (hb hby hd) rfl (by rw [if0, holdLt, h0]; exact decide_eq_true hc) ho hq k⟩
  · exact Or.inr ⟨hc, w.step fun hx hby hat k => XS.ifNo hat hx rfl (hb hby hd) rfl (by rw [if0, holdLt, h0]; exact decide_eq_false hc) k⟩
theorem Wk.ifGe {x : Int32} (w : Wk κ l Z own nm code ml ret R n0 h cells slots pc Ls (.int x :: St)) {o : Int} {q' : Nat} {xi : Int} (hd : decode code pc = .ok (.ifCond .ge o, 3)) (hx0 : x.toInt = xi) (ho : 0 ≤ (pc : Int) + o) (hq : ((pc : Int) + o).toNat = q) (hq' : pc + 3 = q') : (0 ≤ xi ∧ Wk κ l Z own nm code ml ret R n0 h cells slots q Ls St) ∨ (¬ (0 ≤ xi) ∧ Wk κ l Z own nm code ml ret R n0 h cells slots q' Ls St) := by
  subst hx0 hq'
  have h0 : (0 : Int32).toInt = 0 := rfl
  by_cases hc : 0 ≤ x.toInt
  · exact Or.inl ⟨hc, w.step fun hx hby hat k => XS.ifYes hat hx rfl rfl (hb hby hd) rfl (by rw [if0, holdGe, h0]; exact decide_eq_true hc) ho hq k⟩
  · exact Or.inr ⟨hc, w.step fun hx hby hat k => XS.ifNo hat hx rfl (hb hby hd) rfl (by rw [if0, holdGe, h0]; exact decide_eq_false hc) k⟩
theorem Wk.ifGt {x : Int32} (w : Wk κ l Z own nm code ml ret R n0 h cells slots pc Ls (.int x :: St)) {o : Int} {q' : Nat} {xi : Int} (hd : decode code pc = .ok (.ifCond .gt o, 3)) (hx0 : x.toInt = xi) (ho : 0 ≤ (pc : Int) + o) (hq : ((pc : Int) + o).toNat = q) (hq' : pc + 3 = q') : (0 < xi ∧ Wk κ l Z own nm code ml ret R n0 h cells slots q Ls St) ∨ (¬ (0 < xi) ∧ Wk κ l Z own nm code ml ret R n0 h cells slots q' Ls St) := by
  subst hx0 hq'
  have h0 : (0 : Int32).toInt = 0 := rfl
  by_cases hc : 0 < x.toInt
  · exact Or.inl ⟨hc, w.step fun hx hby hat k => XS.ifYes hat hx rfl rfl (hb hby hd) rfl (by rw [if0, holdGt, h0]; exact decide_eq_true hc) ho hq k⟩
  · exact Or.inr ⟨hc, w.step fun hx hby hat k => XS.ifNo hat hx rfl (hb hby hd) rfl (by rw [if0, holdGt, h0]; exact decide_eq_false hc) k⟩
theorem Wk.ifLe {x : Int32} (w : Wk κ l Z own nm code ml ret R n0 h cells slots pc Ls (.int x :: St)) {o : Int} {q' : Nat} {xi : Int} (hd : decode code pc = .ok (.ifCond .le o, 3)) (hx0 : x.toInt = xi) (ho : 0 ≤ (pc : Int) + o) (hq : ((pc : Int) + o).toNat = q) (hq' : pc + 3 = q') : (xi ≤ 0 ∧ Wk κ l Z own nm code ml ret R n0 h cells slots q Ls St) ∨ (¬ (xi ≤ 0) ∧ Wk κ l Z own nm code ml ret R n0 h cells slots q' Ls St) := by
  subst hx0 hq'
  have h0 : (0 : Int32).toInt = 0 := rfl
  by_cases hc : x.toInt ≤ 0
  · exact Or.inl ⟨hc, w.step fun hx hby hat k => XS.ifYes hat hx rfl rfl (hb hby hd) rfl (by rw [if0, holdLe, h0]; exact decide_eq_true hc) ho hq k⟩
  · exact Or.inr ⟨hc, w.step fun hx hby hat k => XS.ifNo hat hx rfl (hb hby hd) rfl (by rw [if0, holdLe, h0]; exact decide_eq_false hc) k⟩
theorem Wk.acmpEq {x y : Value} (w : Wk κ l Z own nm code ml ret R n0 h cells slots pc Ls (y :: x :: St)) {o : Int} {q' : Nat} (hd : decode code pc = .ok (.if_acmp .eq o, 3)) (hx' : x.isRef = true) (hy' : y.isRef = true) (ho : 0 ≤ (pc : Int) + o) (hq : ((pc : Int) + o).toNat = q) (hq' : pc + 3 = q') : (x = y ∧ Wk κ l Z own nm code ml ret R n0 h cells slots q Ls St) ∨ (¬ (x = y) ∧ Wk κ l Z own nm code ml ret R n0 h cells slots q' Ls St) := by
  subst hq'
  by_cases hc : x = y
  · exact Or.inl ⟨hc, w.step fun hx hby hat k => XT.acmpYes hat hx rfl rfl (hb hby hd) rfl hx' hy' (by simpa [XT.acmp] using hc) ho hq k⟩
  · exact Or.inr ⟨hc, w.step fun hx hby hat k => XT.acmpNo hat hx rfl (hb hby hd) rfl hx' hy' (by simpa [XT.acmp] using hc) k⟩
theorem Wk.acmpNe {x y : Value} (w : Wk κ l Z own nm code ml ret R n0 h cells slots pc Ls (y :: x :: St)) {o : Int} {q' : Nat} (hd : decode code pc = .ok (.if_acmp .ne o, 3)) (hx' : x.isRef = true) (hy' : y.isRef = true) (ho : 0 ≤ (pc : Int) + o) (hq : ((pc : Int) + o).toNat = q) (hq' : pc + 3 = q') : (x ≠ y ∧ Wk κ l Z own nm code ml ret R n0 h cells slots q Ls St) ∨ (¬ (x ≠ y) ∧ Wk κ l Z own nm code ml ret R n0 h cells slots q' Ls St) := by
  subst hq'
  by_cases hc : x ≠ y
  · exact Or.inl ⟨hc, w.step fun hx hby hat k => XT.acmpYes hat hx rfl rfl (hb hby hd) rfl hx' hy' (by simpa [XT.acmp] using hc) ho hq k⟩
  · exact Or.inr ⟨hc, w.step fun hx hby hat k => XT.acmpNo hat hx rfl (hb hby hd) rfl hx' hy' (by simpa [XT.acmp] using hc) k⟩
theorem Wk.acmpEqR {a b : Nat} (w : Wk κ l Z own nm code ml ret R n0 h cells slots pc Ls (.ref b :: .ref a :: St)) {o : Int} {q' : Nat} (hd : decode code pc = .ok (.if_acmp .eq o, 3)) (ho : 0 ≤ (pc : Int) + o) (hq : ((pc : Int) + o).toNat = q) (hq' : pc + 3 = q') : (a = b ∧ Wk κ l Z own nm code ml ret R n0 h cells slots q Ls St) ∨ (¬ (a = b) ∧ Wk κ l Z own nm code ml ret R n0 h cells slots q' Ls St) :=
  (w.acmpEq hd rfl rfl ho hq hq').imp (fun g => ⟨Value.ref.inj g.1, g.2⟩) (fun g => ⟨fun e => g.1 (congrArg Value.ref e), g.2⟩)
theorem Wk.acmpNeR {a b : Nat} (w : Wk κ l Z own nm code ml ret R n0 h cells slots pc Ls (.ref b :: .ref a :: St)) {o : Int} {q' : Nat} (hd : decode code pc = .ok (.if_acmp .ne o, 3)) (ho : 0 ≤ (pc : Int) + o) (hq : ((pc : Int) + o).toNat = q) (hq' : pc + 3 = q') : (a ≠ b ∧ Wk κ l Z own nm code ml ret R n0 h cells slots q Ls St) ∨ (¬ (a ≠ b) ∧ Wk κ l Z own nm code ml ret R n0 h cells slots q' Ls St) :=
  (w.acmpNe hd rfl rfl ho hq hq').imp (fun g => ⟨fun e => g.1 (congrArg Value.ref e), g.2⟩) (fun g => ⟨fun e => g.1 fun e' => e (Value.ref.inj e'), g.2⟩)
/-- a field of the start, by the case's own words -/
theorem fld_of_eq {args : Array Value} {s : State} {t : Term} {C n d : String} {k : Int32} {a : Nat} (hh : (Cond.eq (Term.field t C n d) (Term.int k)).value args s none s [] = some true) (ht : t.eval args s none [] s = some (.ref a)) : Fld s s.heap a C n d (.int k) := by
  obtain ⟨x, y, ex, ey, k1, k2⟩ := cmp_v (Or.inl hh)
  obtain rfl : y = .int k := (Option.some.inj (ey.symm.trans (Term.int_eval k)))
  obtain ⟨z, rfl⟩ := k2
  obtain rfl : z = k := gotT (Cond.eq_ints ex ey) hh
  exact Fld.start (by rw [← fld_at ht]; exact ex)
/-! returns -/
theorem Wk.retI {x : Int32} (w : Wk κ l Z own nm code ml (some .int) R n0 h cells slots pc Ls (.int x :: St)) {Q : Option Value → Heap → Prop} {C S : Nat} (hd : decode code pc = .ok (.ireturn, 1)) (hQ : Q (some (.int x)) h) (hc : cells ≤ C) (hs : slots ≤ S) : Dn κ n0 Q C S := by
  obtain ⟨p, e, s, m, args, below, meth, c, S0⟩ := κ
  obtain ⟨⟨hx, hby, hml, hret, hlk, hnm, hZ, hown⟩, T, locs, X, N, eT, st⟩ := w
  obtain ⟨fs, hr, hrun, hended, hW, hsame⟩ := X.leave (v := some (.int x)) (fun hh => by rw [hret] at hh; cases hh) hlk
  exact ⟨_, _, st _ (retOut X hx hret rfl (Or.inl ⟨rfl, Or.inl rfl, _, rfl⟩) (hb hby hd) hr), hrun, hended, _, _, rfl, ⟨by rw [show (T.setFrames fs).heap = h from eT]; exact hQ, N⟩, ⟨_, rfl⟩, hW, hsame.mono hc hs⟩
theorem Wk.retZ {x z : Int32} (w : Wk κ l Z own nm code ml (some .boolean) R n0 h cells slots pc Ls (.int x :: St)) {Q : Option Value → Heap → Prop} {C S : Nat} (hd : decode code pc = .ok (.ireturn, 1)) (hz : x &&& 1 = z) (hQ : Q (some (.int z)) h) (hc : cells ≤ C) (hs : slots ≤ S) : Dn κ n0 Q C S := by
  obtain ⟨p, e, s, m, args, below, meth, c, S0⟩ := κ
  obtain ⟨⟨hx, hby, hml, hret, hlk, hnm, hZ, hown⟩, T, locs, X, N, eT, st⟩ := w
  subst hz
  obtain ⟨fs, hr, hrun, hended, hW, hsame⟩ := X.leave (v := some (.int (nar .boolean x))) (fun hh => by rw [hret] at hh; cases hh) hlk
  exact ⟨_, _, st _ (retN X hx hret (by simp) (hb hby hd) hr), hrun, hended, _, _, rfl, ⟨by rw [show (T.setFrames fs).heap = h from eT]; exact hQ, N⟩, ⟨_, rfl⟩, hW, hsame.mono hc hs⟩
theorem Wk.retJ {x : Int64} (w : Wk κ l Z own nm code ml (some .long) R n0 h cells slots pc Ls (.long x :: St)) {Q : Option Value → Heap → Prop} {C S : Nat} (hd : decode code pc = .ok (.lreturn, 1)) (hQ : Q (some (.long x)) h) (hc : cells ≤ C) (hs : slots ≤ S) : Dn κ n0 Q C S := by
  obtain ⟨p, e, s, m, args, below, meth, c, S0⟩ := κ
  obtain ⟨⟨hx, hby, hml, hret, hlk, hnm, hZ, hown⟩, T, locs, X, N, eT, st⟩ := w
  obtain ⟨fs, hr, hrun, hended, hW, hsame⟩ := X.leave (v := some (.long x)) (fun hh => by rw [hret] at hh; cases hh) hlk
  exact ⟨_, _, st _ (retOut X hx hret rfl (Or.inr (Or.inl ⟨rfl, rfl, _, rfl⟩)) (hb hby hd) hr), hrun, hended, _, _, rfl, ⟨by rw [show (T.setFrames fs).heap = h from eT]; exact hQ, N⟩, ⟨_, rfl⟩, hW, hsame.mono hc hs⟩
theorem Wk.retD {x : UInt64} (w : Wk κ l Z own nm code ml (some .double) R n0 h cells slots pc Ls (.double x :: St)) {Q : Option Value → Heap → Prop} {C S : Nat} (hd : decode code pc = .ok (.dreturn, 1)) (hQ : Q (some (.double x)) h) (hc : cells ≤ C) (hs : slots ≤ S) : Dn κ n0 Q C S := by
  obtain ⟨p, e, s, m, args, below, meth, c, S0⟩ := κ
  obtain ⟨⟨hx, hby, hml, hret, hlk, hnm, hZ, hown⟩, T, locs, X, N, eT, st⟩ := w
  obtain ⟨fs, hr, hrun, hended, hW, hsame⟩ := X.leave (v := some (.double x)) (fun hh => by rw [hret] at hh; cases hh) hlk
  exact ⟨_, _, st _ (retOut X hx hret rfl (Or.inr (Or.inr (Or.inl ⟨rfl, rfl, _, rfl⟩))) (hb hby hd) hr), hrun, hended, _, _, rfl, ⟨by rw [show (T.setFrames fs).heap = h from eT]; exact hQ, N⟩, ⟨_, rfl⟩, hW, hsame.mono hc hs⟩
theorem Wk.retA {rt : FieldType} {v : Value} (w : Wk κ l Z own nm code ml (some rt) R n0 h cells slots pc Ls (v :: St)) {Q : Option Value → Heap → Prop} {C S : Nat} (hd : decode code pc = .ok (.areturn, 1)) (hrt : rt.isReference = true) (hn : narrow rt v = v) (hv : v.isRef = true) (hQ : Q (some v) h) (hc : cells ≤ C) (hs : slots ≤ S) : Dn κ n0 Q C S := by
  obtain ⟨p, e, s, m, args, below, meth, c, S0⟩ := κ
  obtain ⟨⟨hx, hby, hml, hret, hlk, hnm, hZ, hown⟩, T, locs, X, N, eT, st⟩ := w
  obtain ⟨fs, hr, hrun, hended, hW, hsame⟩ := X.leave (v := some v) (fun hh => by rw [hret] at hh; cases hh) hlk
  exact ⟨_, _, st _ (retOut X hx hret hn (Or.inr (Or.inr (Or.inr (Or.inr ⟨rfl, hrt, hv⟩)))) (hb hby hd) hr), hrun, hended, _, _, rfl, ⟨by rw [show (T.setFrames fs).heap = h from eT]; exact hQ, N⟩, ⟨_, rfl⟩, hW, hsame.mono hc hs⟩
theorem Wk.retV (w : Wk κ l Z own nm code ml none R n0 h cells slots pc Ls []) {Q : Option Value → Heap → Prop} {C S : Nat} (hd : decode code pc = .ok (.return_, 1)) (hQ : Q none h) (hc : cells ≤ C) (hs : slots ≤ S) : Dn κ n0 Q C S := by
  obtain ⟨p, e, s, m, args, below, meth, c, S0⟩ := κ
  obtain ⟨⟨hx, hby, hml, hret, hlk, hnm, hZ, hown⟩, T, locs, X, N, eT, st⟩ := w
  obtain ⟨fs, hr, hrun, hended, hW, hsame⟩ := X.leave (v := none) (fun hh => rfl) hlk
  exact ⟨_, _, st _ (X.returnOut hx hret (hb hby hd) hr), hrun, hended, _, _, rfl, ⟨by rw [show (T.setFrames fs).heap = h from eT]; exact hQ, N⟩, ⟨_, rfl⟩, hW, hsame.mono hc hs⟩
/-! the heap -/
theorem Wk.getF {a : Nat} (w : Wk κ l Z own nm code ml ret R n0 h cells slots pc Ls (.ref a :: St)) {O n d : String} {i : Nat} {v : Value} (wd : (Cond.fieldLink own i O n d).before a0 Z = true) (F : Fld Z h a O n d v) (hd : decode code pc = .ok (.getfield i, 3)) (hq : pc + 3 = q) : Wk κ l Z own nm code ml ret R n0 h cells slots q Ls (v :: St) := by
  subst hq; exact w.stepT fun hx hby _ hZ hown X eT => Jvm.RoadKit.getF X hx hZ hown (host := "") (Or.inl wd) Via.refl eT F (g := mkF _ pc Ls _) rfl rfl (hb hby hd)
theorem Wk.getS (w : Wk κ l Z own nm code ml ret R n0 h cells slots pc Ls St) {O n d : String} {i : Nat} {v : Value} (wd : (Cond.fieldLink own i O n d).before a0 Z = true) (F : Sta Z h O n d v) (hd : decode code pc = .ok (.getstatic i, 3)) (hq : pc + 3 = q) : Wk κ l Z own nm code ml ret R n0 h cells slots q Ls (v :: St) := by
  subst hq; exact w.stepT fun hx hby _ hZ hown X eT => Jvm.RoadKit.getS X hx hZ hown (host := "") wd Via.refl eT F (g := mkF _ pc Ls _) rfl (hb hby hd)
theorem Wk.putF {a : Nat} {v old : Value} (w : Wk κ l Z own nm code ml ret R n0 h cells slots pc Ls (v :: .ref a :: St)) {O n d C : String} {i kk : Nat} {ty : FieldType} (wd : (Cond.fieldLink own i O n d).before a0 Z = true) (F : Fld Z h a O n d old) (E : Exa Z h a C) (L : (Cond.lays C O n d).before a0 Z = true ∨ ((Cond.laysFinal C O n d).before a0 Z = true ∧ own = O ∧ nm = "<init>")) (wi : (Cond.instantiable C kk).before a0 Z = true)
    (hty : parseFieldDescriptor d = some ty) (hn : narrow ty v = v) (hf : fits ty v = true) (hd : decode code pc = .ok (.putfield i, 3)) (ge : n0 ≤ a) (hq : pc + 3 = q) : ∃ h', Wr h h' a (Jvm.RoadKit.slotOf Z O n d) v ∧ Wk κ l Z own nm code ml ret R n0 h' cells slots q Ls St := by
  obtain ⟨p, e, s, m, args, below, meth, c, S0⟩ := κ
  obtain ⟨hs, T, locs, X, N, eT, st⟩ := w
  subst hq
  obtain ⟨T', h', X', e', W, st'⟩ := Jvm.RoadKit.putF X hs.1 hs.2.2.2.2.2.2.1 hs.2.2.2.2.2.2.2 (host := "") (Or.inl wd) Via.refl eT F E (L.imp id fun q => ⟨q.1, q.2.1, hs.2.2.2.2.2.1.trans q.2.2⟩) wi hty hn hf (g := mkF m pc Ls _) rfl rfl (hb hs.2.1 hd)
  exact ⟨h', W, hs, T', _, X', Fr.snoc X' N ge, e', fun t k => st t (st' t k)⟩
theorem Wk.newO (w : Wk κ l Z own nm code ml ret R n0 h cells slots pc Ls St) {C : String} {i n : Nat} (w1 : (Cond.classLink own i C).before a0 Z = true) (w2 : (Cond.instantiable C n).before a0 Z = true) (w3 : (Cond.initialized C).before a0 Z = true) (hd : decode code pc = .ok (.new i, 3)) (hc : cells + 1 ≤ R.cells) (hl : slots + n ≤ R.slots) (hq : pc + 3 = q) :
    ∃ (h' : Heap) (a : Nat), a = h.size ∧ Ext h h' ∧ Exa Z h' a C ∧ (∀ {O nm d : String} {ty : FieldType}, Laid Z a0 C O nm d → parseFieldDescriptor d = some ty → Fld Z h' a O nm d (defaultValue ty)) ∧ Wk κ l Z own nm code ml ret R n0 h' (cells + 1) (slots + n) q Ls (.ref a :: St) := by
  obtain ⟨p, e, s, m, args, below, meth, c, S0⟩ := κ
  obtain ⟨hs, T, locs, X, N, eT, st⟩ := w
  subst hq
  obtain ⟨T', h', X', e', E, A, D, -, st'⟩ := Jvm.RoadKit.newO X hs.1 hs.2.2.2.2.2.2.1 hs.2.2.2.2.2.2.2 w1 w2 w3 eT (g := mkF m pc Ls St) rfl (hb hs.2.1 hd) hc hl
  exact ⟨h', _, rfl, E, A, D, hs, T', _, X', N, e', fun t k => st t (st' t k)⟩
theorem Wk.newP {z : Int32} (w : Wk κ l Z own nm code ml ret R n0 h cells slots pc Ls (.int z :: St)) {aty : ArrayType} {ty : FieldType} (w1 : (Cond.arrayClass ty).before a0 Z = true) (hty : newarray.typeOf aty = ty) (hd : decode code pc = .ok (.newarray aty, 2)) (hn : ¬ z < 0) {cap : Nat} (hcap : z.toNatClampNeg ≤ cap) (hbig : cap * 8 ≤ 536870912) (hc : cells + 1 ≤ R.cells) (hl : slots + cap ≤ R.slots) (hq : pc + 2 = q) :
    ∃ (h' : Heap) (a : Nat) (cA : ClassId), a = h.size ∧ Ext h h' ∧ Arr Z h' a (newA cA ty z) ty ∧ Wk κ l Z own nm code ml ret R n0 h' (cells + 1) (slots + cap) q Ls (.ref a :: St) := by
  obtain ⟨p, e, s, m, args, below, meth, c, S0⟩ := κ
  obtain ⟨hs, T, locs, X, N, eT, st⟩ := w
  subst hq hty
  obtain ⟨T', h', cA, X', e', E, A, st'⟩ := Jvm.RoadKit.newP X hs.1 hs.2.2.2.2.2.2.1 w1 eT (g := mkF m pc Ls _) rfl (hb hs.2.1 hd) rfl hn hcap hbig hc hl
  exact ⟨h', _, cA, rfl, E, A, hs, T', _, X', N, e', fun t k => st t (st' t k)⟩
theorem Wk.newR {z : Int32} (w : Wk κ l Z own nm code ml ret R n0 h cells slots pc Ls (.int z :: St)) {C : String} {i : Nat} (w1 : (Cond.classLink own i C).before a0 Z = true) (w2 : (Cond.arrayOver (.object C)).before a0 Z = true) (hd : decode code pc = .ok (.anewarray i, 3)) (hn : ¬ z < 0) {cap : Nat} (hcap : z.toNatClampNeg ≤ cap) (hbig : cap * 8 ≤ 536870912) (hc : cells + 1 ≤ R.cells) (hl : slots + cap ≤ R.slots) (hq : pc + 3 = q) :
    ∃ (h' : Heap) (a : Nat) (cA : ClassId), a = h.size ∧ Ext h h' ∧ Arr Z h' a (newA cA (.object C) z) (.object C) ∧ Ovr Z cA C ∧ Wk κ l Z own nm code ml ret R n0 h' (cells + 1) (slots + cap) q Ls (.ref a :: St) := by
  obtain ⟨p, e, s, m, args, below, meth, c, S0⟩ := κ
  obtain ⟨hs, T, locs, X, N, eT, st⟩ := w
  subst hq
  obtain ⟨T', h', cA, X', e', E, A, O, st'⟩ := Jvm.RoadKit.newR X hs.1 hs.2.2.2.2.2.2.1 hs.2.2.2.2.2.2.2 w1 w2 eT (g := mkF m pc Ls _) rfl (hb hs.2.1 hd) rfl hn hcap hbig hc hl
  exact ⟨h', _, cA, rfl, E, A, O, hs, T', _, X', N, e', fun t k => st t (st' t k)⟩
theorem Wk.stI {a : Nat} {j x : Int32} (w : Wk κ l Z own nm code ml ret R n0 h cells slots pc Ls (.int x :: .int j :: .ref a :: St)) {cl : Cell} (A : Arr Z h a cl .int) (hj : ¬ (j < 0 ∨ cl.slots.size ≤ j.toNatClampNeg)) (hd : decode code pc = .ok (.iastore, 1)) (ge : n0 ≤ a) (hq : pc + 1 = q) : ∃ h', Wr h h' a j.toNatClampNeg (.int x) ∧ Wk κ l Z own nm code ml ret R n0 h' cells slots q Ls St := by
  obtain ⟨p, e, s, m, args, below, meth, c, S0⟩ := κ
  obtain ⟨hs, T, locs, X, N, eT, st⟩ := w
  subst hq
  obtain ⟨T', h', X', e', W, st'⟩ := Jvm.RoadKit.stI X hs.1 hs.2.2.2.2.2.2.1 eT A hj (g := mkF m pc Ls _) rfl rfl (hb hs.2.1 hd)
  exact ⟨h', W, hs, T', _, X', Fr.snoc X' N ge, e', fun t k => st t (st' t k)⟩
theorem Wk.stB {a : Nat} {j x : Int32} (w : Wk κ l Z own nm code ml ret R n0 h cells slots pc Ls (.int x :: .int j :: .ref a :: St)) {cl : Cell} (A : Arr Z h a cl .byte) (hj : ¬ (j < 0 ∨ cl.slots.size ≤ j.toNatClampNeg)) (hd : decode code pc = .ok (.bastore, 1)) (ge : n0 ≤ a) (hq : pc + 1 = q) : ∃ h', Wr h h' a j.toNatClampNeg (.int (nar .byte x)) ∧ Wk κ l Z own nm code ml ret R n0 h' cells slots q Ls St := by
  obtain ⟨p, e, s, m, args, below, meth, c, S0⟩ := κ
  obtain ⟨hs, T, locs, X, N, eT, st⟩ := w
  subst hq
  obtain ⟨T', h', X', e', W, st'⟩ := Jvm.RoadKit.stB X hs.1 hs.2.2.2.2.2.2.1 eT A hj (g := mkF m pc Ls _) rfl rfl (hb hs.2.1 hd)
  exact ⟨h', W, hs, T', _, X', Fr.snoc X' N ge, e', fun t k => st t (st' t k)⟩
theorem Wk.stD {a : Nat} {j : Int32} {x : UInt64} (w : Wk κ l Z own nm code ml ret R n0 h cells slots pc Ls (.double x :: .int j :: .ref a :: St)) {cl : Cell} (A : Arr Z h a cl .double) (hj : ¬ (j < 0 ∨ cl.slots.size ≤ j.toNatClampNeg)) (hd : decode code pc = .ok (.dastore, 1)) (ge : n0 ≤ a) (hq : pc + 1 = q) : ∃ h', Wr h h' a j.toNatClampNeg (.double x) ∧ Wk κ l Z own nm code ml ret R n0 h' cells slots q Ls St := by
  obtain ⟨p, e, s, m, args, below, meth, c, S0⟩ := κ
  obtain ⟨hs, T, locs, X, N, eT, st⟩ := w
  subst hq
  obtain ⟨T', h', X', e', W, st'⟩ := Jvm.RoadKit.stD X hs.1 hs.2.2.2.2.2.2.1 eT A hj (g := mkF m pc Ls _) rfl rfl (hb hs.2.1 hd)
  exact ⟨h', W, hs, T', _, X', Fr.snoc X' N ge, e', fun t k => st t (st' t k)⟩
theorem Wk.stR {a : Nat} {j : Int32} {v : Value} (w : Wk κ l Z own nm code ml ret R n0 h cells slots pc Ls (v :: .int j :: .ref a :: St)) {cl : Cell} {ty : FieldType} (A : Arr Z h a cl ty) (hj : ¬ (j < 0 ∨ cl.slots.size ≤ j.toNatClampNeg)) (hty : ty.isReference = true) (F : Sto Z h a v) (hd : decode code pc = .ok (.aastore, 1)) (ge : n0 ≤ a) (hq : pc + 1 = q) : ∃ h', Wr h h' a j.toNatClampNeg v ∧ Wk κ l Z own nm code ml ret R n0 h' cells slots q Ls St := by
  obtain ⟨p, e, s, m, args, below, meth, c, S0⟩ := κ
  obtain ⟨hs, T, locs, X, N, eT, st⟩ := w
  subst hq
  obtain ⟨T', h', X', e', W, st'⟩ := Jvm.RoadKit.stR X hs.1 hs.2.2.2.2.2.2.1 eT A hj hty F (g := mkF m pc Ls _) rfl rfl (hb hs.2.1 hd)
  exact ⟨h', W, hs, T', _, X', Fr.snoc X' N ge, e', fun t k => st t (st' t k)⟩
theorem Wk.ldI {a : Nat} {j : Int32} {v : Value} (w : Wk κ l Z own nm code ml ret R n0 h cells slots pc Ls (.int j :: .ref a :: St)) {cl : Cell} (A : Arr Z h a cl .int) (hj : ¬ (j < 0 ∨ cl.slots.size ≤ j.toNatClampNeg)) (hv : cl.slots[j.toNatClampNeg]? = some v) (hd : decode code pc = .ok (.iaload, 1)) (hq : pc + 1 = q) : Wk κ l Z own nm code ml ret R n0 h cells slots q Ls (v :: St) := by
  subst hq; exact w.stepX fun hx hby hZ _ X eT k => X.iaload hx (j := j) (v := v) (by rw [eT]; exact A.1) (State.isArrayOf_alike hZ.alike A.2.1) A.2.2 hj hv (g := mkF _ pc Ls _) rfl rfl (hb hby hd) _ k
theorem Wk.ldB {a : Nat} {j : Int32} {v : Value} (w : Wk κ l Z own nm code ml ret R n0 h cells slots pc Ls (.int j :: .ref a :: St)) {cl : Cell} (A : Arr Z h a cl .byte) (hj : ¬ (j < 0 ∨ cl.slots.size ≤ j.toNatClampNeg)) (hv : cl.slots[j.toNatClampNeg]? = some v) (hd : decode code pc = .ok (.baload, 1)) (hq : pc + 1 = q) : Wk κ l Z own nm code ml ret R n0 h cells slots q Ls (v :: St) := by
  subst hq; exact w.stepX fun hx hby hZ _ X eT k => X.baloadBytes hx (j := j) (v := v) (by rw [eT]; exact A.1) (State.isArrayOf_alike hZ.alike A.2.1) A.2.2 hj hv (g := mkF _ pc Ls _) rfl rfl (hb hby hd) _ k
theorem Wk.ldD {a : Nat} {j : Int32} {v : Value} (w : Wk κ l Z own nm code ml ret R n0 h cells slots pc Ls (.int j :: .ref a :: St)) {cl : Cell} (A : Arr Z h a cl .double) (hj : ¬ (j < 0 ∨ cl.slots.size ≤ j.toNatClampNeg)) (hv : cl.slots[j.toNatClampNeg]? = some v) (hd : decode code pc = .ok (.daload, 1)) (hq : pc + 1 = q) : Wk κ l Z own nm code ml ret R n0 h cells slots q Ls (v :: St) := by
  subst hq; exact w.stepX fun hx hby hZ _ X eT k => X.daload hx (j := j) (v := v) (by rw [eT]; exact A.1) (State.isArrayOf_alike hZ.alike A.2.1) A.2.2 hj hv (g := mkF _ pc Ls _) rfl rfl (hb hby hd) _ k
theorem Wk.ldR {a : Nat} {j : Int32} {v : Value} (w : Wk κ l Z own nm code ml ret R n0 h cells slots pc Ls (.int j :: .ref a :: St)) {cl : Cell} {ty : FieldType} (A : Arr Z h a cl ty) (hty : ty.isReference = true) (hj : ¬ (j < 0 ∨ cl.slots.size ≤ j.toNatClampNeg)) (hv : cl.slots[j.toNatClampNeg]? = some v) (hd : decode code pc = .ok (.aaload, 1)) (hq : pc + 1 = q) : Wk κ l Z own nm code ml ret R n0 h cells slots q Ls (v :: St) := by
  subst hq; exact w.stepX fun hx hby hZ _ X eT k => X.aaload hx (j := j) (v := v) (by rw [eT]; exact A.1) (State.isArrayOf_alike hZ.alike A.2.1) hty A.2.2 hj hv (g := mkF _ pc Ls _) rfl rfl (hb hby hd) _ k
theorem Wk.len {a : Nat} {z : Int32} (w : Wk κ l Z own nm code ml ret R n0 h cells slots pc Ls (.ref a :: St)) {cl : Cell} {ty : FieldType} (A : Arr Z h a cl ty) (hz : cl.slots.size.toInt32 = z) (hd : decode code pc = .ok (.arraylength, 1)) (hq : pc + 1 = q) : Wk κ l Z own nm code ml ret R n0 h cells slots q Ls (.int z :: St) := by
  subst hq hz; exact w.stepX fun hx hby hZ _ X eT k => X.arraylength hx (by rw [eT]; exact A.1) (State.isArrayOf_alike hZ.alike A.2.1) (g := mkF _ pc Ls _) rfl rfl (hb hby hd) _ k
/-! calls -/
theorem Wk.initO {a : Nat} (w : Wk κ l Z own nm code ml ret R n0 h cells slots pc Ls (.ref a :: St)) {i : Nat} (w1 : (Cond.methodLink own i Lib.objectInit).before a0 Z = true) (w2 : (Cond.instanceMethod Lib.objectInit).before a0 Z = true) (w3 : (Cond.code Lib.objectInit ⟨#[0xb1]⟩ 1 none).before a0 Z = true) (hd : decode code pc = .ok (.invokespecial i, 3)) (hsz : Ls.size = ml) (hf : 1 ≤ R.frames) {W : Nat} (hW : (St.map fun v => v.category).sum ≤ W) (hl : W + 12 ≤ R.locals) (hq : pc + 3 = q) : Wk κ l Z own nm code ml ret R n0 h cells slots q Ls St := by
  subst hq; exact w.stepT fun hx hby hml hZ hown X eT => Jvm.RoadKit.initO X hx hZ hown w1 w2 w3 eT (g := mkF _ pc Ls _) rfl (hsz.trans hml.symm) rfl (hb hby hd) hf (W := W) (by show 2 * 0 + _ ≤ _; omega) hl
theorem Wk.callS (w : Wk κ l Z own nm code ml ret R n0 h cells slots pc Ls St) {y : MethodName} {i : Nat} {by0 : ByteArray} {ml' : Nat} {rt : Option FieldType} {rm : Room} {Q : Option Value → Heap → Prop} {argsL rest : List Value} (hM : Met l Z y by0 ml' rt rm n0 argsL.toArray h Q)
    (w1 : (Cond.methodLink own i y).before a0 Z = true) (w2 : (Cond.static y).before a0 Z = true) (w3 : (Cond.initialized y.cls).before a0 Z = true) (w4 : (Cond.code y by0 ml' rt).before a0 Z = true) (hy : y.cls ≠ "java/lang/invoke/MethodHandle" ∧ y.cls ≠ "java/lang/invoke/VarHandle")
    (hd : decode code pc = .ok (.invokestatic i, 3)) (hlen : ∀ sig, parseMethodDescriptor y.desc = some sig → argsL.length = sig.parameters.length) (hst : St = argsL.reverse ++ rest) (hsz : Ls.size = ml) (hf : rm.frames + 1 ≤ R.frames) {W : Nat} (hW : (rest.map fun v => v.category).sum ≤ W) (hl : W + (ml' + 11) + rm.locals ≤ R.locals) (hc : cells + rm.cells ≤ R.cells) (hs : slots + rm.slots ≤ R.slots) (hq : pc + 3 = q) :
    ∃ v h', Q v h' ∧ ∀ St', v.toList ++ rest = St' → Wk κ l Z own nm code ml ret R n0 h' (cells + rm.cells) (slots + rm.slots) q Ls St' := by
  obtain ⟨p, e, s, m, args, below, meth, c, S0⟩ := κ
  obtain ⟨g1, T, locs, X, N, eT, st⟩ := w
  subst hq hst
  have hZ := g1.2.2.2.2.2.2.1
  obtain ⟨v, _, ⟨T', L', k', n'⟩, -, X', ⟨Lc, hQ, l1, y1, z1⟩, st'⟩ := Jvm.LawKit.callS X g1.1 (y := y) g1.2.2.2.2.2.2.2 (mvT hZ w1) (mvT hZ w2) (mvT hZ w3) (mvT hZ w4) hy (backOf (W := W) (Q := fun v h L => Q v h ∧ Fr n0 L) (hM []) hZ w4 w3 hf hl) (g := mkF m pc Ls _) rfl (hsz.trans g1.2.2.1.symm) (argsL := argsL) (rest := rest) hlen rfl (by show 2 * 0 + _ ≤ _; omega) (hb g1.2.1 hd) (fun _ _ => ⟨rfl, eT, hc, hs⟩)
  dsimp only [Pt.U, Pt.locs, Pt.cells, Pt.slots] at X' l1 y1 z1 st' hQ
  subst l1 y1 z1
  exact ⟨v, _, hQ.1, fun St' hS => by subst hS; exact ⟨g1, T', _, X', N.app hQ.2, rfl, fun t k => st t (st' t k)⟩⟩
theorem Wk.callI {a : Nat} (w : Wk κ l Z own nm code ml ret R n0 h cells slots pc Ls St) {y : MethodName} {i : Nat} {by0 : ByteArray} {ml' : Nat} {rm : Room} {Q : Option Value → Heap → Prop} {argsL rest : List Value} (hM : Met l Z y by0 ml' none rm n0 (.ref a :: argsL).toArray h Q) (hy1 : y.name = "<init>")
    (w1 : (Cond.methodLink own i y).before a0 Z = true) (w2 : (Cond.instanceMethod y).before a0 Z = true) (w3 : (Cond.initialized y.cls).before a0 Z = true) (w4 : (Cond.code y by0 ml' none).before a0 Z = true) (hy : y.cls ≠ "java/lang/invoke/MethodHandle" ∧ y.cls ≠ "java/lang/invoke/VarHandle")
    (hd : decode code pc = .ok (.invokespecial i, 3)) (hlen : ∀ sig, parseMethodDescriptor y.desc = some sig → argsL.length = sig.parameters.length) (hst : St = argsL.reverse ++ .ref a :: rest) (hsz : Ls.size = ml) (hf : rm.frames + 1 ≤ R.frames) {W : Nat} (hW : (rest.map fun v => v.category).sum ≤ W) (hl : W + (ml' + 11) + rm.locals ≤ R.locals) (hc : cells + rm.cells ≤ R.cells) (hs : slots + rm.slots ≤ R.slots) (hq : pc + 3 = q) :
    ∃ v h', Q v h' ∧ ∀ St', v.toList ++ rest = St' → Wk κ l Z own nm code ml ret R n0 h' (cells + rm.cells) (slots + rm.slots) q Ls St' := by
  obtain ⟨p, e, s, m, args, below, meth, c, S0⟩ := κ
  obtain ⟨g1, T, locs, X, N, eT, st⟩ := w
  subst hq hst
  have hZ := g1.2.2.2.2.2.2.1
  obtain ⟨v, _, ⟨T', L', k', n'⟩, -, X', ⟨Lc, hQ, l1, y1, z1⟩, st'⟩ := X.specialBack g1.1 (y := y) hy1 g1.2.2.2.2.2.2.2 (mvT hZ w1) (mvT hZ w2) (mvT hZ w4) hy (backOf (W := W) (Q := fun v h L => Q v h ∧ Fr n0 L) (hM []) hZ w4 w3 hf hl) (g := mkF m pc Ls _) rfl (hsz.trans g1.2.2.1.symm) (Steps.refl _) (a := a) (argsL := argsL) (rest := rest) hlen rfl (by show 2 * 0 + _ ≤ _; omega) (hb g1.2.1 hd) (fun _ _ => ⟨rfl, eT, hc, hs⟩)
  dsimp only [Pt.U, Pt.locs, Pt.cells, Pt.slots] at X' l1 y1 z1 st' hQ
  subst l1 y1 z1
  exact ⟨v, _, hQ.1, fun St' hS => by subst hS; exact ⟨g1, T', _, X', N.app hQ.2, rfl, fun t k => st t (st'.trans k)⟩⟩
theorem Wk.callV {a : Nat} (w : Wk κ l Z own nm code ml ret R n0 h cells slots pc Ls St) {y : MethodName} {C : String} {i : Nat} {by0 : ByteArray} {ml' : Nat} {rt : Option FieldType} {rm : Room} {Q : Option Value → Heap → Prop} {argsL rest : List Value} (hM : Met l Z y by0 ml' rt rm n0 (.ref a :: argsL).toArray h Q) (E : Exa Z h a C)
    (w1 : (Cond.methodLink own i y).before a0 Z = true) (w5 : (Cond.declares y).before a0 Z = true) (w6 : (Cond.selects C y y).before a0 Z = true) (w2 : (Cond.instanceMethod y).before a0 Z = true) (w3 : (Cond.initialized y.cls).before a0 Z = true) (w4 : (Cond.code y by0 ml' rt).before a0 Z = true) (hy : y.cls ≠ "java/lang/invoke/MethodHandle" ∧ y.cls ≠ "java/lang/invoke/VarHandle")
    (hd : decode code pc = .ok (.invokevirtual i, 3)) (hlen : ∀ sig, parseMethodDescriptor y.desc = some sig → argsL.length = sig.parameters.length) (hst : St = argsL.reverse ++ .ref a :: rest) (hsz : Ls.size = ml) (hf : rm.frames + 1 ≤ R.frames) {W : Nat} (hW : (rest.map fun v => v.category).sum ≤ W) (hl : W + (ml' + 11) + rm.locals ≤ R.locals) (hc : cells + rm.cells ≤ R.cells) (hs : slots + rm.slots ≤ R.slots) (hq : pc + 3 = q) :
    ∃ v h', Q v h' ∧ ∀ St', v.toList ++ rest = St' → Wk κ l Z own nm code ml ret R n0 h' (cells + rm.cells) (slots + rm.slots) q Ls St' := by
  obtain ⟨p, e, s, m, args, below, meth, c, S0⟩ := κ
  obtain ⟨g1, T, locs, X, N, eT, st⟩ := w
  subst hq hst
  have hZ := g1.2.2.2.2.2.2.1
  obtain ⟨cq, kq, qa, qb, qc⟩ := isOf hZ eT E
  obtain ⟨v, _, ⟨T', L', k', n'⟩, -, X', ⟨Lc, hQ, l1, y1, z1⟩, st'⟩ := X.virtualBack g1.1 (y := y) (z := y) g1.2.2.2.2.2.2.2 (mvT hZ w1) (mvT hZ w5) (notFace_of_selects (args := #[]) (mvT hZ w6)) (mvT hZ w6) (mvT hZ w2) hy (backOf (W := W) (Q := fun v h L => Q v h ∧ Fr n0 L) (hM []) hZ w4 w3 hf hl) qa qc (g := mkF m pc Ls _) rfl (hsz.trans g1.2.2.1.symm) (Steps.refl _) (argsL := argsL) (rest := rest) hlen rfl (by show 2 * 0 + _ ≤ _; omega) (hb g1.2.1 hd) (fun _ _ => ⟨rfl, eT, hc, hs⟩)
  dsimp only [Pt.U, Pt.locs, Pt.cells, Pt.slots] at X' l1 y1 z1 st' hQ
  subst l1 y1 z1
  exact ⟨v, _, hQ.1, fun St' hS => by subst hS; exact ⟨g1, T', _, X', N.app hQ.2, rfl, fun t k => st t (st'.trans k)⟩⟩
end Own
end Jvm.OwnKit
namespace Jvm.Pilot.@@N@@
open Jvm Jvm.ClassFile Sem Op Lib Jvm.Free Jvm.Stand Jvm.LawKit Jvm.RoadKit Jvm.OwnKit Bundle Jvm.Pilot.@@N@@.Jvm.D
theorem pn_0 : plainName "com/example/lucky_fork/luckyfork/sim/SampleRandomNextLongPinLaw" = true := by first | (simp [plainName, overriddenIn]; done) | decide +kernel
theorem pn_1 : plainName "com/example/lucky_fork/luckyfork/sim/SampleRandom" = true := by first | (simp [plainName, overriddenIn]; done) | decide +kernel
theorem pd_0 : parseMethodDescriptor "(J)J" = some ⟨[.long], (some .long)⟩ := by decide +kernel
theorem pd_1 : parseMethodDescriptor "(JJ)V" = some ⟨[.long, .long], none⟩ := by decide +kernel
theorem pd_2 : parseMethodDescriptor "()J" = some ⟨[], (some .long)⟩ := by decide +kernel
theorem dp154m1_0 : decode prog_154_method_1_code 0 = .ok (.aload_n 0, 1) := by decide +kernel
theorem dp154m1_1 : decode prog_154_method_1_code 1 = .ok (.invokespecial 1, 3) := by decide +kernel
theorem dp154m1_4 : decode prog_154_method_1_code 4 = .ok (.aload_n 0, 1) := by decide +kernel
theorem dp154m1_5 : decode prog_154_method_1_code 5 = .ok (.lload_n 1, 1) := by decide +kernel
theorem dp154m1_6 : decode prog_154_method_1_code 6 = .ok (.lload_n 3, 1) := by decide +kernel
theorem dp154m1_7 : decode prog_154_method_1_code 7 = .ok (.bipush 32, 2) := by decide +kernel
theorem dp154m1_9 : decode prog_154_method_1_code 9 = .ok (.lshl, 1) := by decide +kernel
theorem dp154m1_10 : decode prog_154_method_1_code 10 = .ok (.ldc2_w 9, 3) := by decide +kernel
theorem dp154m1_13 : decode prog_154_method_1_code 13 = .ok (.lmul, 1) := by decide +kernel
theorem dp154m1_14 : decode prog_154_method_1_code 14 = .ok (.ladd, 1) := by decide +kernel
theorem dp154m1_15 : decode prog_154_method_1_code 15 = .ok (.putfield 11, 3) := by decide +kernel
theorem dp154m1_18 : decode prog_154_method_1_code 18 = .ok (.return_, 1) := by decide +kernel
theorem dp154m2_0 : decode prog_154_method_2_code 0 = .ok (.aload_n 0, 1) := by decide +kernel
theorem dp154m2_1 : decode prog_154_method_2_code 1 = .ok (.dup, 1) := by decide +kernel
theorem dp154m2_2 : decode prog_154_method_2_code 2 = .ok (.getfield 11, 3) := by decide +kernel
theorem dp154m2_5 : decode prog_154_method_2_code 5 = .ok (.ldc2_w 9, 3) := by decide +kernel
theorem dp154m2_8 : decode prog_154_method_2_code 8 = .ok (.ladd, 1) := by decide +kernel
theorem dp154m2_9 : decode prog_154_method_2_code 9 = .ok (.putfield 11, 3) := by decide +kernel
theorem dp154m2_12 : decode prog_154_method_2_code 12 = .ok (.aload_n 0, 1) := by decide +kernel
theorem dp154m2_13 : decode prog_154_method_2_code 13 = .ok (.getfield 11, 3) := by decide +kernel
theorem dp154m2_16 : decode prog_154_method_2_code 16 = .ok (.lstore_n 1, 1) := by decide +kernel
theorem dp154m2_17 : decode prog_154_method_2_code 17 = .ok (.lload_n 1, 1) := by decide +kernel
theorem dp154m2_18 : decode prog_154_method_2_code 18 = .ok (.lload_n 1, 1) := by decide +kernel
theorem dp154m2_19 : decode prog_154_method_2_code 19 = .ok (.bipush 30, 2) := by decide +kernel
theorem dp154m2_21 : decode prog_154_method_2_code 21 = .ok (.lushr, 1) := by decide +kernel
theorem dp154m2_22 : decode prog_154_method_2_code 22 = .ok (.lxor, 1) := by decide +kernel
theorem dp154m2_23 : decode prog_154_method_2_code 23 = .ok (.ldc2_w 15, 3) := by decide +kernel
theorem dp154m2_26 : decode prog_154_method_2_code 26 = .ok (.lmul, 1) := by decide +kernel
theorem dp154m2_27 : decode prog_154_method_2_code 27 = .ok (.lstore_n 1, 1) := by decide +kernel
theorem dp154m2_28 : decode prog_154_method_2_code 28 = .ok (.lload_n 1, 1) := by decide +kernel
theorem dp154m2_29 : decode prog_154_method_2_code 29 = .ok (.lload_n 1, 1) := by decide +kernel
theorem dp154m2_30 : decode prog_154_method_2_code 30 = .ok (.bipush 27, 2) := by decide +kernel
theorem dp154m2_32 : decode prog_154_method_2_code 32 = .ok (.lushr, 1) := by decide +kernel
theorem dp154m2_33 : decode prog_154_method_2_code 33 = .ok (.lxor, 1) := by decide +kernel
theorem dp154m2_34 : decode prog_154_method_2_code 34 = .ok (.ldc2_w 17, 3) := by decide +kernel
theorem dp154m2_37 : decode prog_154_method_2_code 37 = .ok (.lmul, 1) := by decide +kernel
theorem dp154m2_38 : decode prog_154_method_2_code 38 = .ok (.lstore_n 1, 1) := by decide +kernel
theorem dp154m2_39 : decode prog_154_method_2_code 39 = .ok (.lload_n 1, 1) := by decide +kernel
theorem dp154m2_40 : decode prog_154_method_2_code 40 = .ok (.lload_n 1, 1) := by decide +kernel
theorem dp154m2_41 : decode prog_154_method_2_code 41 = .ok (.bipush 31, 2) := by decide +kernel
theorem dp154m2_43 : decode prog_154_method_2_code 43 = .ok (.lushr, 1) := by decide +kernel
theorem dp154m2_44 : decode prog_154_method_2_code 44 = .ok (.lxor, 1) := by decide +kernel
theorem dp154m2_45 : decode prog_154_method_2_code 45 = .ok (.lreturn, 1) := by decide +kernel
theorem dlm3_0 : decode method_3_code 0 = .ok (.lload_n 0, 1) := by decide +kernel
theorem dlm3_1 : decode method_3_code 1 = .ok (.lload_n 0, 1) := by decide +kernel
theorem dlm3_2 : decode method_3_code 2 = .ok (.bipush 31, 2) := by decide +kernel
theorem dlm3_4 : decode method_3_code 4 = .ok (.lushr, 1) := by decide +kernel
theorem dlm3_5 : decode method_3_code 5 = .ok (.lxor, 1) := by decide +kernel
theorem dlm3_6 : decode method_3_code 6 = .ok (.lload_n 0, 1) := by decide +kernel
theorem dlm3_7 : decode method_3_code 7 = .ok (.bipush 62, 2) := by decide +kernel
theorem dlm3_9 : decode method_3_code 9 = .ok (.lushr, 1) := by decide +kernel
theorem dlm3_10 : decode method_3_code 10 = .ok (.lxor, 1) := by decide +kernel
theorem dlm3_11 : decode method_3_code 11 = .ok (.lstore_n 0, 1) := by decide +kernel
theorem dlm3_12 : decode method_3_code 12 = .ok (.lload_n 0, 1) := by decide +kernel
theorem dlm3_13 : decode method_3_code 13 = .ok (.ldc2_w 9, 3) := by decide +kernel
theorem dlm3_16 : decode method_3_code 16 = .ok (.invokestatic 11, 3) := by decide +kernel
theorem dlm3_19 : decode method_3_code 19 = .ok (.lmul, 1) := by decide +kernel
theorem dlm3_20 : decode method_3_code 20 = .ok (.lstore_n 0, 1) := by decide +kernel
theorem dlm3_21 : decode method_3_code 21 = .ok (.lload_n 0, 1) := by decide +kernel
theorem dlm3_22 : decode method_3_code 22 = .ok (.lload_n 0, 1) := by decide +kernel
theorem dlm3_23 : decode method_3_code 23 = .ok (.bipush 27, 2) := by decide +kernel
theorem dlm3_25 : decode method_3_code 25 = .ok (.lushr, 1) := by decide +kernel
theorem dlm3_26 : decode method_3_code 26 = .ok (.lxor, 1) := by decide +kernel
theorem dlm3_27 : decode method_3_code 27 = .ok (.lload_n 0, 1) := by decide +kernel
theorem dlm3_28 : decode method_3_code 28 = .ok (.bipush 54, 2) := by decide +kernel
theorem dlm3_30 : decode method_3_code 30 = .ok (.lushr, 1) := by decide +kernel
theorem dlm3_31 : decode method_3_code 31 = .ok (.lxor, 1) := by decide +kernel
theorem dlm3_32 : decode method_3_code 32 = .ok (.lstore_n 0, 1) := by decide +kernel
theorem dlm3_33 : decode method_3_code 33 = .ok (.lload_n 0, 1) := by decide +kernel
theorem dlm3_34 : decode method_3_code 34 = .ok (.ldc2_w 17, 3) := by decide +kernel
theorem dlm3_37 : decode method_3_code 37 = .ok (.invokestatic 11, 3) := by decide +kernel
theorem dlm3_40 : decode method_3_code 40 = .ok (.lmul, 1) := by decide +kernel
theorem dlm3_41 : decode method_3_code 41 = .ok (.lstore_n 0, 1) := by decide +kernel
theorem dlm3_42 : decode method_3_code 42 = .ok (.lload_n 0, 1) := by decide +kernel
theorem dlm3_43 : decode method_3_code 43 = .ok (.lload_n 0, 1) := by decide +kernel
theorem dlm3_44 : decode method_3_code 44 = .ok (.bipush 30, 2) := by decide +kernel
theorem dlm3_46 : decode method_3_code 46 = .ok (.lushr, 1) := by decide +kernel
theorem dlm3_47 : decode method_3_code 47 = .ok (.lxor, 1) := by decide +kernel
theorem dlm3_48 : decode method_3_code 48 = .ok (.lload_n 0, 1) := by decide +kernel
theorem dlm3_49 : decode method_3_code 49 = .ok (.bipush 60, 2) := by decide +kernel
theorem dlm3_51 : decode method_3_code 51 = .ok (.lushr, 1) := by decide +kernel
theorem dlm3_52 : decode method_3_code 52 = .ok (.lxor, 1) := by decide +kernel
theorem dlm3_53 : decode method_3_code 53 = .ok (.lreturn, 1) := by decide +kernel
theorem dlm2_0 : decode method_2_code 0 = .ok (.lload_n 0, 1) := by decide +kernel
theorem dlm2_1 : decode method_2_code 1 = .ok (.lstore_n 2, 1) := by decide +kernel
theorem dlm2_2 : decode method_2_code 2 = .ok (.lload_n 2, 1) := by decide +kernel
theorem dlm2_3 : decode method_2_code 3 = .ok (.ldc2_w 7, 3) := by decide +kernel
theorem dlm2_6 : decode method_2_code 6 = .ok (.lload_n 0, 1) := by decide +kernel
theorem dlm2_7 : decode method_2_code 7 = .ok (.lload_n 2, 1) := by decide +kernel
theorem dlm2_8 : decode method_2_code 8 = .ok (.lmul, 1) := by decide +kernel
theorem dlm2_9 : decode method_2_code 9 = .ok (.lsub, 1) := by decide +kernel
theorem dlm2_10 : decode method_2_code 10 = .ok (.lmul, 1) := by decide +kernel
theorem dlm2_11 : decode method_2_code 11 = .ok (.lstore_n 2, 1) := by decide +kernel
theorem dlm2_12 : decode method_2_code 12 = .ok (.lload_n 2, 1) := by decide +kernel
theorem dlm2_13 : decode method_2_code 13 = .ok (.ldc2_w 7, 3) := by decide +kernel
theorem dlm2_16 : decode method_2_code 16 = .ok (.lload_n 0, 1) := by decide +kernel
theorem dlm2_17 : decode method_2_code 17 = .ok (.lload_n 2, 1) := by decide +kernel
theorem dlm2_18 : decode method_2_code 18 = .ok (.lmul, 1) := by decide +kernel
theorem dlm2_19 : decode method_2_code 19 = .ok (.lsub, 1) := by decide +kernel
theorem dlm2_20 : decode method_2_code 20 = .ok (.lmul, 1) := by decide +kernel
theorem dlm2_21 : decode method_2_code 21 = .ok (.lstore_n 2, 1) := by decide +kernel
theorem dlm2_22 : decode method_2_code 22 = .ok (.lload_n 2, 1) := by decide +kernel
theorem dlm2_23 : decode method_2_code 23 = .ok (.ldc2_w 7, 3) := by decide +kernel
theorem dlm2_26 : decode method_2_code 26 = .ok (.lload_n 0, 1) := by decide +kernel
theorem dlm2_27 : decode method_2_code 27 = .ok (.lload_n 2, 1) := by decide +kernel
theorem dlm2_28 : decode method_2_code 28 = .ok (.lmul, 1) := by decide +kernel
theorem dlm2_29 : decode method_2_code 29 = .ok (.lsub, 1) := by decide +kernel
theorem dlm2_30 : decode method_2_code 30 = .ok (.lmul, 1) := by decide +kernel
theorem dlm2_31 : decode method_2_code 31 = .ok (.lstore_n 2, 1) := by decide +kernel
theorem dlm2_32 : decode method_2_code 32 = .ok (.lload_n 2, 1) := by decide +kernel
theorem dlm2_33 : decode method_2_code 33 = .ok (.ldc2_w 7, 3) := by decide +kernel
theorem dlm2_36 : decode method_2_code 36 = .ok (.lload_n 0, 1) := by decide +kernel
theorem dlm2_37 : decode method_2_code 37 = .ok (.lload_n 2, 1) := by decide +kernel
theorem dlm2_38 : decode method_2_code 38 = .ok (.lmul, 1) := by decide +kernel
theorem dlm2_39 : decode method_2_code 39 = .ok (.lsub, 1) := by decide +kernel
theorem dlm2_40 : decode method_2_code 40 = .ok (.lmul, 1) := by decide +kernel
theorem dlm2_41 : decode method_2_code 41 = .ok (.lstore_n 2, 1) := by decide +kernel
theorem dlm2_42 : decode method_2_code 42 = .ok (.lload_n 2, 1) := by decide +kernel
theorem dlm2_43 : decode method_2_code 43 = .ok (.ldc2_w 7, 3) := by decide +kernel
theorem dlm2_46 : decode method_2_code 46 = .ok (.lload_n 0, 1) := by decide +kernel
theorem dlm2_47 : decode method_2_code 47 = .ok (.lload_n 2, 1) := by decide +kernel
theorem dlm2_48 : decode method_2_code 48 = .ok (.lmul, 1) := by decide +kernel
theorem dlm2_49 : decode method_2_code 49 = .ok (.lsub, 1) := by decide +kernel
theorem dlm2_50 : decode method_2_code 50 = .ok (.lmul, 1) := by decide +kernel
theorem dlm2_51 : decode method_2_code 51 = .ok (.lstore_n 2, 1) := by decide +kernel
theorem dlm2_52 : decode method_2_code 52 = .ok (.lload_n 2, 1) := by decide +kernel
theorem dlm2_53 : decode method_2_code 53 = .ok (.lreturn, 1) := by decide +kernel
def own_step (a x : Int64) : Int64 := x * ((2 : Int64) - a * x)
def own_inv (a : Int64) : Int64 := own_step a (own_step a (own_step a (own_step a (own_step a a))))
def own_sh (x : Int64) (j k : Int32) : Int64 := (x ^^^ XT.ushrL x j) ^^^ XT.ushrL x k
def own_unmix (z : Int64) : Int64 := own_sh (own_sh (own_sh z 31 62 * own_inv (-7723592293110705685 : Int64)) 27 54 * own_inv (-4658895280553007687 : Int64)) 30 60
def own_xs (x : Int64) (k : Int32) : Int64 := x ^^^ XT.ushrL x k
def own_mix (s : Int64) : Int64 := own_xs (own_xs (own_xs s 30 * (-4658895280553007687 : Int64)) 27 * (-7723592293110705685 : Int64)) 31
def own_start (sample : Int64) : Int64 := sample <<< ((32 : Int32).toInt64 &&& 63)
theorem own_ushr (x : Int64) (k : Int32) (n : Nat) (hn : (k.toInt64.toUInt64 &&& Int64.toUInt64 63).toBitVec % 64 = BitVec.ofNat 64 n) (h2 : n < 64) : (XT.ushrL x k).toBitVec = x.toBitVec >>> n := by
  show (x.toUInt64 >>> (k.toInt64.toUInt64 &&& Int64.toUInt64 63)).toBitVec = _
  rw [UInt64.toBitVec_shiftRight, hn]
  show x.toBitVec >>> (BitVec.ofNat 64 n) = _
  rw [BitVec.ushiftRight_eq', BitVec.toNat_ofNat, Nat.mod_eq_of_lt (by omega)]
theorem own_bv (y : BitVec 64) (n : Nat) (h : 64 ≤ n + n + n) : ((y ^^^ y >>> n) ^^^ (y ^^^ y >>> n) >>> n) ^^^ (y ^^^ y >>> n) >>> (n + n) = y := by
  have e : y >>> (n + n + n) = 0#64 := BitVec.ushiftRight_eq_zero h
  rw [BitVec.ushiftRight_xor_distrib, BitVec.ushiftRight_xor_distrib, ← BitVec.shiftRight_add, ← BitVec.shiftRight_add, show n + (n + n) = n + n + n by omega, e]
  generalize y >>> n = a
  generalize y >>> (n + n) = b
  rw [BitVec.xor_zero]
  have e1 : y ^^^ a ^^^ (a ^^^ b) = y ^^^ b := by rw [← BitVec.xor_assoc, BitVec.xor_assoc y a a, BitVec.xor_self, BitVec.xor_zero]
  rw [e1, BitVec.xor_assoc, BitVec.xor_self, BitVec.xor_zero]
theorem own_back (y : Int64) (j k : Int32) (n : Nat) (hj : (j.toInt64.toUInt64 &&& Int64.toUInt64 63).toBitVec % 64 = BitVec.ofNat 64 n) (hk : (k.toInt64.toUInt64 &&& Int64.toUInt64 63).toBitVec % 64 = BitVec.ofNat 64 (n + n)) (h2 : n + n < 64) (h3 : 64 ≤ n + n + n) : own_sh (own_xs y j) j k = y := by
  obtain ⟨x, hx⟩ : ∃ x, own_xs y j = x := ⟨_, rfl⟩
  have hb : x.toBitVec = y.toBitVec ^^^ y.toBitVec >>> n := by rw [← hx, own_xs, Int64.toBitVec_xor, own_ushr y j n hj (by omega)]
  rw [hx]
  apply Int64.toBitVec_inj.mp
  rw [own_sh, Int64.toBitVec_xor, Int64.toBitVec_xor, own_ushr x j n hj (by omega), own_ushr x k (n + n) hk h2, hb]
  exact own_bv _ n h3
theorem own_unmix_mix (s : Int64) : own_unmix (own_mix s) = s := by
  unfold own_unmix own_mix
  rw [own_back _ 31 62 31 (by decide) (by decide) (by decide) (by decide)]
  rw [Int64.mul_assoc, show (-7723592293110705685 : Int64) * own_inv (-7723592293110705685 : Int64) = 1 by decide +kernel, Int64.mul_one]
  rw [own_back _ 27 54 27 (by decide) (by decide) (by decide) (by decide)]
  rw [Int64.mul_assoc, show (-4658895280553007687 : Int64) * own_inv (-4658895280553007687 : Int64) = 1 by decide +kernel, Int64.mul_one]
  exact own_back _ 30 60 30 (by decide) (by decide) (by decide) (by decide)
theorem own_next (s t g : Int64) : s + t * g + g = s + (t + 1) * g := by rw [Int64.add_mul, Int64.one_mul, Int64.add_assoc]
theorem own_n2 (s t g : Int64) : s + t * g + g + g = s + (t + 2) * g := by rw [own_next, own_next, Int64.add_assoc t 1 1]; rfl
theorem own_n3 (s t g : Int64) : s + t * g + g + g + g = s + (t + 3) * g := by rw [own_n2, own_next, Int64.add_assoc t 2 1]; rfl
theorem own_cmp {x y : Int64} {z : Int32} (h : XT.cmpL x y = z) (e : x = y) : z.toInt = 0 := by subst e h; simp [XT.cmpL]
set_option maxRecDepth 65536 in
set_option maxHeartbeats 40000000 in
theorem own_iv (l : Launch) (Z : State) (a0 : Array Value) (hw : ∀ d ∈ tables_1, d.before a0 Z = true) (h0 : Heap) (n0 : Nat) (Z0 : n0 ≤ h0.size) (a : Int64) :
    Met l Z (⟨"com/example/lucky_fork/luckyfork/sim/SampleRandomNextLongPinLaw", "inverse", "(J)J"⟩ : MethodName) method_2_code 4 (some .long) ({ frames := 0, cells := 0, slots := 0, locals := 0 } : Room) n0 #[(.long a)] h0 (fun v h => h = h0 ∧ v = some (.long (own_inv a))) := by
  refine Met.of (Ls := #[.val (.long a), .second, .unset, .unset]) (plainFor_of_name pn_0) (fun m => by first | (simp [entryFrame, mkF, argsToLocals, Value.category, maxLocals]; done) | rfl) (fun κ w => ?_)
  replace w : Wk κ l Z "com/example/lucky_fork/luckyfork/sim/SampleRandomNextLongPinLaw" "inverse" method_2_code 4 (some .long) ({ frames := 0, cells := 0, slots := 0, locals := 0 } : Room) n0 h0 0 0 0 #[.val (.long a), .second, .unset, .unset] [] := w
  replace w := w.lloadN (q := 1) (v := a) dlm2_0 rfl rfl
  replace w := w.lstoreN (q := 2) (l' := #[.val (.long a), .second, .val (.long a), .second]) dlm2_1 rfl rfl
  replace w := w.lloadN (q := 3) (v := a) dlm2_2 rfl rfl
  replace w := w.ldcJ (q := 6) (z := (2 : Int64)) (hw _ (List.mem_of_getElem? (i := 28) rfl)) dlm2_3 rfl
  replace w := w.lloadN (q := 7) (v := a) dlm2_6 rfl rfl
  replace w := w.lloadN (q := 8) (v := a) dlm2_7 rfl rfl
  obtain ⟨z1, hz1⟩ : ∃ z : Int64, a * a = z := ⟨_, rfl⟩
  replace w := w.lmul (q := 9) dlm2_8 hz1 rfl
  obtain ⟨z2, hz2⟩ : ∃ z : Int64, (2 : Int64) - z1 = z := ⟨_, rfl⟩
  replace w := w.lsub (q := 10) dlm2_9 hz2 rfl
  obtain ⟨z3, hz3⟩ : ∃ z : Int64, a * z2 = z := ⟨_, rfl⟩
  replace w := w.lmul (q := 11) dlm2_10 hz3 rfl
  replace w := w.lstoreN (q := 12) (l' := #[.val (.long a), .second, .val (.long z3), .second]) dlm2_11 rfl rfl
  replace w := w.lloadN (q := 13) (v := z3) dlm2_12 rfl rfl
  replace w := w.ldcJ (q := 16) (z := (2 : Int64)) (hw _ (List.mem_of_getElem? (i := 28) rfl)) dlm2_13 rfl
  replace w := w.lloadN (q := 17) (v := a) dlm2_16 rfl rfl
  replace w := w.lloadN (q := 18) (v := z3) dlm2_17 rfl rfl
  obtain ⟨z4, hz4⟩ : ∃ z : Int64, a * z3 = z := ⟨_, rfl⟩
  replace w := w.lmul (q := 19) dlm2_18 hz4 rfl
  obtain ⟨z5, hz5⟩ : ∃ z : Int64, (2 : Int64) - z4 = z := ⟨_, rfl⟩
  replace w := w.lsub (q := 20) dlm2_19 hz5 rfl
  obtain ⟨z6, hz6⟩ : ∃ z : Int64, z3 * z5 = z := ⟨_, rfl⟩
  replace w := w.lmul (q := 21) dlm2_20 hz6 rfl
  replace w := w.lstoreN (q := 22) (l' := #[.val (.long a), .second, .val (.long z6), .second]) dlm2_21 rfl rfl
  replace w := w.lloadN (q := 23) (v := z6) dlm2_22 rfl rfl
  replace w := w.ldcJ (q := 26) (z := (2 : Int64)) (hw _ (List.mem_of_getElem? (i := 28) rfl)) dlm2_23 rfl
  replace w := w.lloadN (q := 27) (v := a) dlm2_26 rfl rfl
  replace w := w.lloadN (q := 28) (v := z6) dlm2_27 rfl rfl
  obtain ⟨z7, hz7⟩ : ∃ z : Int64, a * z6 = z := ⟨_, rfl⟩
  replace w := w.lmul (q := 29) dlm2_28 hz7 rfl
  obtain ⟨z8, hz8⟩ : ∃ z : Int64, (2 : Int64) - z7 = z := ⟨_, rfl⟩
  replace w := w.lsub (q := 30) dlm2_29 hz8 rfl
  obtain ⟨z9, hz9⟩ : ∃ z : Int64, z6 * z8 = z := ⟨_, rfl⟩
  replace w := w.lmul (q := 31) dlm2_30 hz9 rfl
  replace w := w.lstoreN (q := 32) (l' := #[.val (.long a), .second, .val (.long z9), .second]) dlm2_31 rfl rfl
  replace w := w.lloadN (q := 33) (v := z9) dlm2_32 rfl rfl
  replace w := w.ldcJ (q := 36) (z := (2 : Int64)) (hw _ (List.mem_of_getElem? (i := 28) rfl)) dlm2_33 rfl
  replace w := w.lloadN (q := 37) (v := a) dlm2_36 rfl rfl
  replace w := w.lloadN (q := 38) (v := z9) dlm2_37 rfl rfl
  obtain ⟨z10, hz10⟩ : ∃ z : Int64, a * z9 = z := ⟨_, rfl⟩
  replace w := w.lmul (q := 39) dlm2_38 hz10 rfl
  obtain ⟨z11, hz11⟩ : ∃ z : Int64, (2 : Int64) - z10 = z := ⟨_, rfl⟩
  replace w := w.lsub (q := 40) dlm2_39 hz11 rfl
  obtain ⟨z12, hz12⟩ : ∃ z : Int64, z9 * z11 = z := ⟨_, rfl⟩
  replace w := w.lmul (q := 41) dlm2_40 hz12 rfl
  replace w := w.lstoreN (q := 42) (l' := #[.val (.long a), .second, .val (.long z12), .second]) dlm2_41 rfl rfl
  replace w := w.lloadN (q := 43) (v := z12) dlm2_42 rfl rfl
  replace w := w.ldcJ (q := 46) (z := (2 : Int64)) (hw _ (List.mem_of_getElem? (i := 28) rfl)) dlm2_43 rfl
  replace w := w.lloadN (q := 47) (v := a) dlm2_46 rfl rfl
  replace w := w.lloadN (q := 48) (v := z12) dlm2_47 rfl rfl
  obtain ⟨z13, hz13⟩ : ∃ z : Int64, a * z12 = z := ⟨_, rfl⟩
  replace w := w.lmul (q := 49) dlm2_48 hz13 rfl
  obtain ⟨z14, hz14⟩ : ∃ z : Int64, (2 : Int64) - z13 = z := ⟨_, rfl⟩
  replace w := w.lsub (q := 50) dlm2_49 hz14 rfl
  obtain ⟨z15, hz15⟩ : ∃ z : Int64, z12 * z14 = z := ⟨_, rfl⟩
  replace w := w.lmul (q := 51) dlm2_50 hz15 rfl
  replace w := w.lstoreN (q := 52) (l' := #[.val (.long a), .second, .val (.long z15), .second]) dlm2_51 rfl rfl
  replace w := w.lloadN (q := 53) (v := z15) dlm2_52 rfl rfl
  exact w.retJ dlm2_53 ⟨rfl, by subst_vars; rfl⟩ (by decide) (by decide)
set_option maxRecDepth 65536 in
set_option maxHeartbeats 40000000 in
theorem own_un (l : Launch) (Z : State) (a0 : Array Value) (hw : ∀ d ∈ tables_1, d.before a0 Z = true) (h0 : Heap) (n0 : Nat) (Z0 : n0 ≤ h0.size) (a : Int64) :
    Met l Z (⟨"com/example/lucky_fork/luckyfork/sim/SampleRandomNextLongPinLaw", "unmix", "(J)J"⟩ : MethodName) method_3_code 2 (some .long) ({ frames := 1, cells := 0, slots := 0, locals := 17 } : Room) n0 #[(.long a)] h0 (fun v h => h = h0 ∧ v = some (.long (own_unmix a))) := by
  refine Met.of (Ls := #[.val (.long a), .second]) (plainFor_of_name pn_0) (fun m => by first | (simp [entryFrame, mkF, argsToLocals, Value.category, maxLocals]; done) | rfl) (fun κ w => ?_)
  replace w : Wk κ l Z "com/example/lucky_fork/luckyfork/sim/SampleRandomNextLongPinLaw" "unmix" method_3_code 2 (some .long) ({ frames := 1, cells := 0, slots := 0, locals := 17 } : Room) n0 h0 0 0 0 #[.val (.long a), .second] [] := w
  replace w := w.lloadN (q := 1) (v := a) dlm3_0 rfl rfl
  replace w := w.lloadN (q := 2) (v := a) dlm3_1 rfl rfl
  replace w := w.bipush (q := 4) (z := (31 : Int32)) dlm3_2 (by decide) rfl
  obtain ⟨z16, hz16⟩ : ∃ z : Int64, XT.ushrL a (31 : Int32) = z := ⟨_, rfl⟩
  replace w := w.lushr (q := 5) dlm3_4 hz16 rfl
  obtain ⟨z17, hz17⟩ : ∃ z : Int64, a ^^^ z16 = z := ⟨_, rfl⟩
  replace w := w.lxor (q := 6) dlm3_5 hz17 rfl
  replace w := w.lloadN (q := 7) (v := a) dlm3_6 rfl rfl
  replace w := w.bipush (q := 9) (z := (62 : Int32)) dlm3_7 (by decide) rfl
  obtain ⟨z18, hz18⟩ : ∃ z : Int64, XT.ushrL a (62 : Int32) = z := ⟨_, rfl⟩
  replace w := w.lushr (q := 10) dlm3_9 hz18 rfl
  obtain ⟨z19, hz19⟩ : ∃ z : Int64, z17 ^^^ z18 = z := ⟨_, rfl⟩
  replace w := w.lxor (q := 11) dlm3_10 hz19 rfl
  replace w := w.lstoreN (q := 12) (l' := #[.val (.long z19), .second]) dlm3_11 rfl rfl
  replace w := w.lloadN (q := 13) (v := z19) dlm3_12 rfl rfl
  replace w := w.ldcJ (q := 16) (z := (-7723592293110705685 : Int64)) (hw _ (List.mem_of_getElem? (i := 24) rfl)) dlm3_13 rfl
  obtain ⟨_, _, ⟨eh, rfl⟩, w⟩ := w.callS (y := (⟨"com/example/lucky_fork/luckyfork/sim/SampleRandomNextLongPinLaw", "inverse", "(J)J"⟩ : MethodName)) (argsL := [(.long (-7723592293110705685 : Int64))]) (rest := [(.long z19)]) (own_iv l Z a0 hw h0 n0 Z0 (-7723592293110705685 : Int64)) (hw _ (List.mem_of_getElem? (i := 25) rfl)) (hw _ (List.mem_of_getElem? (i := 26) rfl)) (hw _ (List.mem_of_getElem? (i := 22) rfl)) (hw _ (List.mem_of_getElem? (i := 27) rfl)) (by decide) dlm3_16 (lenOf pd_0 rfl) rfl rfl (by decide) (W := 2) (Nat.le_of_eq rfl) (by decide) (by decide) (by decide) (q := 19) rfl
  rw [eh] at w
  replace w := w [(.long (own_inv (-7723592293110705685 : Int64))), (.long z19)] rfl
  obtain ⟨z20, hz20⟩ : ∃ z : Int64, z19 * (own_inv (-7723592293110705685 : Int64)) = z := ⟨_, rfl⟩
  replace w := w.lmul (q := 20) dlm3_19 hz20 rfl
  replace w := w.lstoreN (q := 21) (l' := #[.val (.long z20), .second]) dlm3_20 rfl rfl
  replace w := w.lloadN (q := 22) (v := z20) dlm3_21 rfl rfl
  replace w := w.lloadN (q := 23) (v := z20) dlm3_22 rfl rfl
  replace w := w.bipush (q := 25) (z := (27 : Int32)) dlm3_23 (by decide) rfl
  obtain ⟨z21, hz21⟩ : ∃ z : Int64, XT.ushrL z20 (27 : Int32) = z := ⟨_, rfl⟩
  replace w := w.lushr (q := 26) dlm3_25 hz21 rfl
  obtain ⟨z22, hz22⟩ : ∃ z : Int64, z20 ^^^ z21 = z := ⟨_, rfl⟩
  replace w := w.lxor (q := 27) dlm3_26 hz22 rfl
  replace w := w.lloadN (q := 28) (v := z20) dlm3_27 rfl rfl
  replace w := w.bipush (q := 30) (z := (54 : Int32)) dlm3_28 (by decide) rfl
  obtain ⟨z23, hz23⟩ : ∃ z : Int64, XT.ushrL z20 (54 : Int32) = z := ⟨_, rfl⟩
  replace w := w.lushr (q := 31) dlm3_30 hz23 rfl
  obtain ⟨z24, hz24⟩ : ∃ z : Int64, z22 ^^^ z23 = z := ⟨_, rfl⟩
  replace w := w.lxor (q := 32) dlm3_31 hz24 rfl
  replace w := w.lstoreN (q := 33) (l' := #[.val (.long z24), .second]) dlm3_32 rfl rfl
  replace w := w.lloadN (q := 34) (v := z24) dlm3_33 rfl rfl
  replace w := w.ldcJ (q := 37) (z := (-4658895280553007687 : Int64)) (hw _ (List.mem_of_getElem? (i := 29) rfl)) dlm3_34 rfl
  obtain ⟨_, _, ⟨eh, rfl⟩, w⟩ := w.callS (y := (⟨"com/example/lucky_fork/luckyfork/sim/SampleRandomNextLongPinLaw", "inverse", "(J)J"⟩ : MethodName)) (argsL := [(.long (-4658895280553007687 : Int64))]) (rest := [(.long z24)]) (own_iv l Z a0 hw h0 n0 Z0 (-4658895280553007687 : Int64)) (hw _ (List.mem_of_getElem? (i := 25) rfl)) (hw _ (List.mem_of_getElem? (i := 26) rfl)) (hw _ (List.mem_of_getElem? (i := 22) rfl)) (hw _ (List.mem_of_getElem? (i := 27) rfl)) (by decide) dlm3_37 (lenOf pd_0 rfl) rfl rfl (by decide) (W := 2) (Nat.le_of_eq rfl) (by decide) (by decide) (by decide) (q := 40) rfl
  rw [eh] at w
  replace w := w [(.long (own_inv (-4658895280553007687 : Int64))), (.long z24)] rfl
  obtain ⟨z25, hz25⟩ : ∃ z : Int64, z24 * (own_inv (-4658895280553007687 : Int64)) = z := ⟨_, rfl⟩
  replace w := w.lmul (q := 41) dlm3_40 hz25 rfl
  replace w := w.lstoreN (q := 42) (l' := #[.val (.long z25), .second]) dlm3_41 rfl rfl
  replace w := w.lloadN (q := 43) (v := z25) dlm3_42 rfl rfl
  replace w := w.lloadN (q := 44) (v := z25) dlm3_43 rfl rfl
  replace w := w.bipush (q := 46) (z := (30 : Int32)) dlm3_44 (by decide) rfl
  obtain ⟨z26, hz26⟩ : ∃ z : Int64, XT.ushrL z25 (30 : Int32) = z := ⟨_, rfl⟩
  replace w := w.lushr (q := 47) dlm3_46 hz26 rfl
  obtain ⟨z27, hz27⟩ : ∃ z : Int64, z25 ^^^ z26 = z := ⟨_, rfl⟩
  replace w := w.lxor (q := 48) dlm3_47 hz27 rfl
  replace w := w.lloadN (q := 49) (v := z25) dlm3_48 rfl rfl
  replace w := w.bipush (q := 51) (z := (60 : Int32)) dlm3_49 (by decide) rfl
  obtain ⟨z28, hz28⟩ : ∃ z : Int64, XT.ushrL z25 (60 : Int32) = z := ⟨_, rfl⟩
  replace w := w.lushr (q := 52) dlm3_51 hz28 rfl
  obtain ⟨z29, hz29⟩ : ∃ z : Int64, z27 ^^^ z28 = z := ⟨_, rfl⟩
  replace w := w.lxor (q := 53) dlm3_52 hz29 rfl
  exact w.retJ dlm3_53 ⟨rfl, by subst_vars; rfl⟩ (by decide) (by decide)
set_option maxRecDepth 65536 in
set_option maxHeartbeats 40000000 in
theorem own_ini (l : Launch) (Z : State) (a0 : Array Value) (hw : ∀ d ∈ tables_1, d.before a0 Z = true) (h0 : Heap) (n0 : Nat) (Z0 : n0 ≤ h0.size) (a : Nat) (s0 p0 : Int64) (ge : n0 ≤ a) (E : Exa Z h0 a "com/example/lucky_fork/luckyfork/sim/SampleRandom") (F : Fld Z h0 a "com/example/lucky_fork/luckyfork/sim/SampleRandom" "state" "J" (.long (0 : Int64))) :
    Met l Z (⟨"com/example/lucky_fork/luckyfork/sim/SampleRandom", "<init>", "(JJ)V"⟩ : MethodName) prog_154_method_1_code 5 none ({ frames := 1, cells := 0, slots := 0, locals := 12 } : Room) n0 #[(.ref a), (.long s0), (.long p0)] h0 (fun v h => v = none ∧ Exa Z h a "com/example/lucky_fork/luckyfork/sim/SampleRandom" ∧ Fld Z h a "com/example/lucky_fork/luckyfork/sim/SampleRandom" "state" "J" (.long (s0 + own_start p0 * (-7046029254386353131 : Int64)))) := by
  refine Met.of (Ls := #[.val (.ref a), .val (.long s0), .second, .val (.long p0), .second]) (plainFor_of_name pn_1) (fun m => by first | (simp [entryFrame, mkF, argsToLocals, Value.category, maxLocals]; done) | rfl) (fun κ w => ?_)
  replace w : Wk κ l Z "com/example/lucky_fork/luckyfork/sim/SampleRandom" "<init>" prog_154_method_1_code 5 none ({ frames := 1, cells := 0, slots := 0, locals := 12 } : Room) n0 h0 0 0 0 #[.val (.ref a), .val (.long s0), .second, .val (.long p0), .second] [] := w
  replace w := w.aloadN (q := 1) (v := (.ref a)) dp154m1_0 rfl rfl rfl
  replace w := w.initO (q := 4) (hw _ (List.mem_of_getElem? (i := 6) rfl)) (hw _ (List.mem_of_getElem? (i := 7) rfl)) (hw _ (List.mem_of_getElem? (i := 8) rfl)) dp154m1_1 rfl (by decide) (W := 0) (Nat.le_of_eq rfl) (by decide) rfl
  replace w := w.aloadN (q := 5) (v := (.ref a)) dp154m1_4 rfl rfl rfl
  replace w := w.lloadN (q := 6) (v := s0) dp154m1_5 rfl rfl
  replace w := w.lloadN (q := 7) (v := p0) dp154m1_6 rfl rfl
  replace w := w.bipush (q := 9) (z := (32 : Int32)) dp154m1_7 (by decide) rfl
  obtain ⟨z30, hz30⟩ : ∃ z : Int64, p0 <<< (((32 : Int32)).toInt64 &&& 63) = z := ⟨_, rfl⟩
  replace w := w.lshl (q := 10) dp154m1_9 hz30 rfl
  replace w := w.ldcJ (q := 13) (z := (-7046029254386353131 : Int64)) (hw _ (List.mem_of_getElem? (i := 9) rfl)) dp154m1_10 rfl
  obtain ⟨z31, hz31⟩ : ∃ z : Int64, z30 * (-7046029254386353131 : Int64) = z := ⟨_, rfl⟩
  replace w := w.lmul (q := 14) dp154m1_13 hz31 rfl
  obtain ⟨z32, hz32⟩ : ∃ z : Int64, s0 + z31 = z := ⟨_, rfl⟩
  replace w := w.ladd (q := 15) dp154m1_14 hz32 rfl
  obtain ⟨h1, W, w⟩ := w.putF (q := 18) (C := "com/example/lucky_fork/luckyfork/sim/SampleRandom") (hw _ (List.mem_of_getElem? (i := 10) rfl)) (F) (E) (Or.inl (hw _ (List.mem_of_getElem? (i := 11) rfl))) (hw _ (List.mem_of_getElem? (i := 1) rfl)) (ty := .long) (by decide) rfl rfl dp154m1_15 (ge) rfl
  exact w.retV dp154m1_18 ⟨rfl, Exa.wr W E, by have := Fld.same W F; subst_vars; exact this⟩ (by decide) (by decide)
set_option maxRecDepth 65536 in
set_option maxHeartbeats 40000000 in
theorem own_nx (l : Launch) (Z : State) (a0 : Array Value) (hw : ∀ d ∈ tables_1, d.before a0 Z = true) (h0 : Heap) (n0 : Nat) (Z0 : n0 ≤ h0.size) (a : Nat) (s0 : Int64) (ge : n0 ≤ a) (E : Exa Z h0 a "com/example/lucky_fork/luckyfork/sim/SampleRandom") (F : Fld Z h0 a "com/example/lucky_fork/luckyfork/sim/SampleRandom" "state" "J" (.long s0)) :
    Met l Z (⟨"com/example/lucky_fork/luckyfork/sim/SampleRandom", "nextLong", "()J"⟩ : MethodName) prog_154_method_2_code 3 (some .long) ({ frames := 0, cells := 0, slots := 0, locals := 0 } : Room) n0 #[(.ref a)] h0 (fun v h => v = some (.long (own_mix (s0 + (-7046029254386353131 : Int64)))) ∧ Exa Z h a "com/example/lucky_fork/luckyfork/sim/SampleRandom" ∧ Fld Z h a "com/example/lucky_fork/luckyfork/sim/SampleRandom" "state" "J" (.long (s0 + (-7046029254386353131 : Int64)))) := by
  refine Met.of (Ls := #[.val (.ref a), .unset, .unset]) (plainFor_of_name pn_1) (fun m => by first | (simp [entryFrame, mkF, argsToLocals, Value.category, maxLocals]; done) | rfl) (fun κ w => ?_)
  replace w : Wk κ l Z "com/example/lucky_fork/luckyfork/sim/SampleRandom" "nextLong" prog_154_method_2_code 3 (some .long) ({ frames := 0, cells := 0, slots := 0, locals := 0 } : Room) n0 h0 0 0 0 #[.val (.ref a), .unset, .unset] [] := w
  replace w := w.aloadN (q := 1) (v := (.ref a)) dp154m2_0 rfl rfl rfl
  replace w := w.dup (q := 2) dp154m2_1 rfl rfl
  replace w := w.getF (q := 5) (v := (.long s0)) (hw _ (List.mem_of_getElem? (i := 10) rfl)) (F) dp154m2_2 rfl
  replace w := w.ldcJ (q := 8) (z := (-7046029254386353131 : Int64)) (hw _ (List.mem_of_getElem? (i := 9) rfl)) dp154m2_5 rfl
  obtain ⟨z33, hz33⟩ : ∃ z : Int64, s0 + (-7046029254386353131 : Int64) = z := ⟨_, rfl⟩
  replace w := w.ladd (q := 9) dp154m2_8 hz33 rfl
  obtain ⟨h1, W, w⟩ := w.putF (q := 12) (C := "com/example/lucky_fork/luckyfork/sim/SampleRandom") (hw _ (List.mem_of_getElem? (i := 10) rfl)) (F) (E) (Or.inl (hw _ (List.mem_of_getElem? (i := 11) rfl))) (hw _ (List.mem_of_getElem? (i := 1) rfl)) (ty := .long) (by decide) rfl rfl dp154m2_9 (ge) rfl
  replace w := w.aloadN (q := 13) (v := (.ref a)) dp154m2_12 rfl rfl rfl
  have F1 := Fld.same W F
  have E1 := Exa.wr W E
  replace w := w.getF (q := 16) (v := (.long z33)) (hw _ (List.mem_of_getElem? (i := 10) rfl)) (F1) dp154m2_13 rfl
  replace w := w.lstoreN (q := 17) (l' := #[.val (.ref a), .val (.long z33), .second]) dp154m2_16 rfl rfl
  replace w := w.lloadN (q := 18) (v := z33) dp154m2_17 rfl rfl
  replace w := w.lloadN (q := 19) (v := z33) dp154m2_18 rfl rfl
  replace w := w.bipush (q := 21) (z := (30 : Int32)) dp154m2_19 (by decide) rfl
  obtain ⟨z34, hz34⟩ : ∃ z : Int64, XT.ushrL z33 (30 : Int32) = z := ⟨_, rfl⟩
  replace w := w.lushr (q := 22) dp154m2_21 hz34 rfl
  obtain ⟨z35, hz35⟩ : ∃ z : Int64, z33 ^^^ z34 = z := ⟨_, rfl⟩
  replace w := w.lxor (q := 23) dp154m2_22 hz35 rfl
  replace w := w.ldcJ (q := 26) (z := (-4658895280553007687 : Int64)) (hw _ (List.mem_of_getElem? (i := 17) rfl)) dp154m2_23 rfl
  obtain ⟨z36, hz36⟩ : ∃ z : Int64, z35 * (-4658895280553007687 : Int64) = z := ⟨_, rfl⟩
  replace w := w.lmul (q := 27) dp154m2_26 hz36 rfl
  replace w := w.lstoreN (q := 28) (l' := #[.val (.ref a), .val (.long z36), .second]) dp154m2_27 rfl rfl
  replace w := w.lloadN (q := 29) (v := z36) dp154m2_28 rfl rfl
  replace w := w.lloadN (q := 30) (v := z36) dp154m2_29 rfl rfl
  replace w := w.bipush (q := 32) (z := (27 : Int32)) dp154m2_30 (by decide) rfl
  obtain ⟨z37, hz37⟩ : ∃ z : Int64, XT.ushrL z36 (27 : Int32) = z := ⟨_, rfl⟩
  replace w := w.lushr (q := 33) dp154m2_32 hz37 rfl
  obtain ⟨z38, hz38⟩ : ∃ z : Int64, z36 ^^^ z37 = z := ⟨_, rfl⟩
  replace w := w.lxor (q := 34) dp154m2_33 hz38 rfl
  replace w := w.ldcJ (q := 37) (z := (-7723592293110705685 : Int64)) (hw _ (List.mem_of_getElem? (i := 18) rfl)) dp154m2_34 rfl
  obtain ⟨z39, hz39⟩ : ∃ z : Int64, z38 * (-7723592293110705685 : Int64) = z := ⟨_, rfl⟩
  replace w := w.lmul (q := 38) dp154m2_37 hz39 rfl
  replace w := w.lstoreN (q := 39) (l' := #[.val (.ref a), .val (.long z39), .second]) dp154m2_38 rfl rfl
  replace w := w.lloadN (q := 40) (v := z39) dp154m2_39 rfl rfl
  replace w := w.lloadN (q := 41) (v := z39) dp154m2_40 rfl rfl
  replace w := w.bipush (q := 43) (z := (31 : Int32)) dp154m2_41 (by decide) rfl
  obtain ⟨z40, hz40⟩ : ∃ z : Int64, XT.ushrL z39 (31 : Int32) = z := ⟨_, rfl⟩
  replace w := w.lushr (q := 44) dp154m2_43 hz40 rfl
  obtain ⟨z41, hz41⟩ : ∃ z : Int64, z39 ^^^ z40 = z := ⟨_, rfl⟩
  replace w := w.lxor (q := 45) dp154m2_44 hz41 rfl
  exact w.retJ dp154m2_45 ⟨by subst_vars; rfl, E1, by subst_vars; exact F1⟩ (by decide) (by decide)
set_option maxRecDepth 65536 in
set_option maxHeartbeats 40000000 in
theorem own_law (l : Launch) (Z : State) (a0 : Array Value) (hw : ∀ d ∈ tables_1, d.before a0 Z = true) (h0 : Heap) (n0 : Nat) (Z0 : n0 ≤ h0.size) (x0 x1 : Int64) :
    Met l Z x code maxLocals ret room_1 n0 #[(.long x0), (.long x1)] h0 (fun v _ => v = some (.int 1)) := by
  refine Met.of (Ls := #[.val (.long x0), .second, .val (.long x1), .second, .unset, .unset, .unset, .unset, .unset, .unset, .unset, .unset, .unset, .unset, .unset]) (plainFor_of_name pn_0) (fun m => by first | (simp [entryFrame, mkF, argsToLocals, Value.category, maxLocals]; done) | rfl) (fun κ w => ?_)
  replace w : Wk κ l Z "com/example/lucky_fork/luckyfork/sim/SampleRandomNextLongPinLaw" "law" code 15 (some .boolean) room_1 n0 h0 0 0 0 #[.val (.long x0), .second, .val (.long x1), .second, .unset, .unset, .unset, .unset, .unset, .unset, .unset, .unset, .unset, .unset, .unset] [] := w
  obtain ⟨h1, a, ea, E, A, D, w⟩ := w.newO (q := 3) (hw _ (List.mem_of_getElem? (i := 0) rfl)) (hw _ (List.mem_of_getElem? (i := 1) rfl)) (hw _ (List.mem_of_getElem? (i := 2) rfl)) at_0 (by decide) (by decide) rfl
  have Fstate : Fld Z h1 a "com/example/lucky_fork/luckyfork/sim/SampleRandom" "state" "J" (.long (0 : Int64)) := D (Or.inl (hw _ (List.mem_of_getElem? (i := 11) rfl))) (ty := .long) (by decide)
  have ge : n0 ≤ a := by rw [ea]; exact Z0
  replace w := w.dup (q := 4) at_3 rfl rfl
  replace w := w.lloadN (q := 5) (v := x0) at_4 rfl rfl
  replace w := w.lloadN (q := 6) (v := x1) at_5 rfl rfl
  obtain ⟨_, h2, ⟨rfl, E1, F1⟩, w⟩ := w.callI (a := a) (y := (⟨"com/example/lucky_fork/luckyfork/sim/SampleRandom", "<init>", "(JJ)V"⟩ : MethodName)) (argsL := [(.long x0), (.long x1)]) (rest := [(.ref a)]) (own_ini l Z a0 hw h1 n0 (Nat.le_of_lt (Nat.lt_of_le_of_lt ge (Exa.lt A))) a x0 x1 ge A Fstate) rfl (hw _ (List.mem_of_getElem? (i := 3) rfl)) (hw _ (List.mem_of_getElem? (i := 4) rfl)) (hw _ (List.mem_of_getElem? (i := 2) rfl)) (hw _ (List.mem_of_getElem? (i := 5) rfl)) (by decide) at_6 (lenOf pd_1 rfl) rfl rfl (by decide) (W := 1) (Nat.le_of_eq rfl) (by decide) (by decide) (by decide) (q := 9) rfl
  replace w := w [(.ref a)] rfl
  replace w := w.astore (q := 11) (l' := #[.val (.long x0), .second, .val (.long x1), .second, .val (.ref a), .unset, .unset, .unset, .unset, .unset, .unset, .unset, .unset, .unset, .unset]) at_9 rfl rfl rfl
  replace w := w.aload (q := 13) (v := (.ref a)) at_11 rfl rfl rfl
  obtain ⟨_, h3, ⟨rfl, E2, F2⟩, w⟩ := w.callV (a := a) (y := (⟨"com/example/lucky_fork/luckyfork/sim/SampleRandom", "nextLong", "()J"⟩ : MethodName)) (argsL := []) (rest := []) (own_nx l Z a0 hw h2 n0 (Nat.le_of_lt (Nat.lt_of_le_of_lt ge (Exa.lt E1))) a _ ge E1 F1) (E1) (hw _ (List.mem_of_getElem? (i := 12) rfl)) (hw _ (List.mem_of_getElem? (i := 13) rfl)) (hw _ (List.mem_of_getElem? (i := 15) rfl)) (hw _ (List.mem_of_getElem? (i := 14) rfl)) (hw _ (List.mem_of_getElem? (i := 2) rfl)) (hw _ (List.mem_of_getElem? (i := 16) rfl)) (by decide) at_13 (lenOf pd_2 rfl) rfl rfl (by decide) (W := 0) (Nat.le_of_eq rfl) (by decide) (by decide) (by decide) (q := 16) rfl
  replace w := w [(.long (own_mix (x0 + own_start x1 * (-7046029254386353131 : Int64) + (-7046029254386353131 : Int64))))] rfl
  replace w := w.lstore (q := 18) (l' := #[.val (.long x0), .second, .val (.long x1), .second, .val (.ref a), .val (.long (own_mix (x0 + own_start x1 * (-7046029254386353131 : Int64) + (-7046029254386353131 : Int64)))), .second, .unset, .unset, .unset, .unset, .unset, .unset, .unset, .unset]) at_16 rfl rfl
  replace w := w.aload (q := 20) (v := (.ref a)) at_18 rfl rfl rfl
  obtain ⟨_, h4, ⟨rfl, E3, F3⟩, w⟩ := w.callV (a := a) (y := (⟨"com/example/lucky_fork/luckyfork/sim/SampleRandom", "nextLong", "()J"⟩ : MethodName)) (argsL := []) (rest := []) (own_nx l Z a0 hw h3 n0 (Nat.le_of_lt (Nat.lt_of_le_of_lt ge (Exa.lt E2))) a _ ge E2 F2) (E2) (hw _ (List.mem_of_getElem? (i := 12) rfl)) (hw _ (List.mem_of_getElem? (i := 13) rfl)) (hw _ (List.mem_of_getElem? (i := 15) rfl)) (hw _ (List.mem_of_getElem? (i := 14) rfl)) (hw _ (List.mem_of_getElem? (i := 2) rfl)) (hw _ (List.mem_of_getElem? (i := 16) rfl)) (by decide) at_20 (lenOf pd_2 rfl) rfl rfl (by decide) (W := 0) (Nat.le_of_eq rfl) (by decide) (by decide) (by decide) (q := 23) rfl
  replace w := w [(.long (own_mix (x0 + own_start x1 * (-7046029254386353131 : Int64) + (-7046029254386353131 : Int64) + (-7046029254386353131 : Int64))))] rfl
  replace w := w.lstore (q := 25) (l' := #[.val (.long x0), .second, .val (.long x1), .second, .val (.ref a), .val (.long (own_mix (x0 + own_start x1 * (-7046029254386353131 : Int64) + (-7046029254386353131 : Int64)))), .second, .val (.long (own_mix (x0 + own_start x1 * (-7046029254386353131 : Int64) + (-7046029254386353131 : Int64) + (-7046029254386353131 : Int64)))), .second, .unset, .unset, .unset, .unset, .unset, .unset]) at_23 rfl rfl
  replace w := w.aload (q := 27) (v := (.ref a)) at_25 rfl rfl rfl
  obtain ⟨_, h5, ⟨rfl, E4, F4⟩, w⟩ := w.callV (a := a) (y := (⟨"com/example/lucky_fork/luckyfork/sim/SampleRandom", "nextLong", "()J"⟩ : MethodName)) (argsL := []) (rest := []) (own_nx l Z a0 hw h4 n0 (Nat.le_of_lt (Nat.lt_of_le_of_lt ge (Exa.lt E3))) a _ ge E3 F3) (E3) (hw _ (List.mem_of_getElem? (i := 12) rfl)) (hw _ (List.mem_of_getElem? (i := 13) rfl)) (hw _ (List.mem_of_getElem? (i := 15) rfl)) (hw _ (List.mem_of_getElem? (i := 14) rfl)) (hw _ (List.mem_of_getElem? (i := 2) rfl)) (hw _ (List.mem_of_getElem? (i := 16) rfl)) (by decide) at_27 (lenOf pd_2 rfl) rfl rfl (by decide) (W := 0) (Nat.le_of_eq rfl) (by decide) (by decide) (by decide) (q := 30) rfl
  replace w := w [(.long (own_mix (x0 + own_start x1 * (-7046029254386353131 : Int64) + (-7046029254386353131 : Int64) + (-7046029254386353131 : Int64) + (-7046029254386353131 : Int64))))] rfl
  replace w := w.lstore (q := 32) (l' := #[.val (.long x0), .second, .val (.long x1), .second, .val (.ref a), .val (.long (own_mix (x0 + own_start x1 * (-7046029254386353131 : Int64) + (-7046029254386353131 : Int64)))), .second, .val (.long (own_mix (x0 + own_start x1 * (-7046029254386353131 : Int64) + (-7046029254386353131 : Int64) + (-7046029254386353131 : Int64)))), .second, .val (.long (own_mix (x0 + own_start x1 * (-7046029254386353131 : Int64) + (-7046029254386353131 : Int64) + (-7046029254386353131 : Int64) + (-7046029254386353131 : Int64)))), .second, .unset, .unset, .unset, .unset]) at_30 rfl rfl
  replace w := w.ldcJ (q := 35) (z := (-7046029254386353131 : Int64)) (hw _ (List.mem_of_getElem? (i := 19) rfl)) at_32 rfl
  replace w := w.lstore (q := 37) (l' := #[.val (.long x0), .second, .val (.long x1), .second, .val (.ref a), .val (.long (own_mix (x0 + own_start x1 * (-7046029254386353131 : Int64) + (-7046029254386353131 : Int64)))), .second, .val (.long (own_mix (x0 + own_start x1 * (-7046029254386353131 : Int64) + (-7046029254386353131 : Int64) + (-7046029254386353131 : Int64)))), .second, .val (.long (own_mix (x0 + own_start x1 * (-7046029254386353131 : Int64) + (-7046029254386353131 : Int64) + (-7046029254386353131 : Int64) + (-7046029254386353131 : Int64)))), .second, .val (.long (-7046029254386353131 : Int64)), .second, .unset, .unset]) at_35 rfl rfl
  replace w := w.lloadN (q := 38) (v := x1) at_37 rfl rfl
  replace w := w.bipush (q := 40) (z := (32 : Int32)) at_38 (by decide) rfl
  obtain ⟨z42, hz42⟩ : ∃ z : Int64, x1 <<< (((32 : Int32)).toInt64 &&& 63) = z := ⟨_, rfl⟩
  replace w := w.lshl (q := 41) at_40 hz42 rfl
  replace w := w.lstore (q := 43) (l' := #[.val (.long x0), .second, .val (.long x1), .second, .val (.ref a), .val (.long (own_mix (x0 + own_start x1 * (-7046029254386353131 : Int64) + (-7046029254386353131 : Int64)))), .second, .val (.long (own_mix (x0 + own_start x1 * (-7046029254386353131 : Int64) + (-7046029254386353131 : Int64) + (-7046029254386353131 : Int64)))), .second, .val (.long (own_mix (x0 + own_start x1 * (-7046029254386353131 : Int64) + (-7046029254386353131 : Int64) + (-7046029254386353131 : Int64) + (-7046029254386353131 : Int64)))), .second, .val (.long (-7046029254386353131 : Int64)), .second, .val (.long z42), .second]) at_41 rfl rfl
  replace w := w.lload (q := 45) (v := (own_mix (x0 + own_start x1 * (-7046029254386353131 : Int64) + (-7046029254386353131 : Int64)))) at_43 rfl rfl
  obtain ⟨_, _, ⟨eh, rfl⟩, w⟩ := w.callS (y := (⟨"com/example/lucky_fork/luckyfork/sim/SampleRandomNextLongPinLaw", "unmix", "(J)J"⟩ : MethodName)) (argsL := [(.long (own_mix (x0 + own_start x1 * (-7046029254386353131 : Int64) + (-7046029254386353131 : Int64))))]) (rest := []) (own_un l Z a0 hw h5 n0 (Nat.le_of_lt (Nat.lt_of_le_of_lt ge (Exa.lt E4))) (own_mix (x0 + own_start x1 * (-7046029254386353131 : Int64) + (-7046029254386353131 : Int64)))) (hw _ (List.mem_of_getElem? (i := 20) rfl)) (hw _ (List.mem_of_getElem? (i := 21) rfl)) (hw _ (List.mem_of_getElem? (i := 22) rfl)) (hw _ (List.mem_of_getElem? (i := 23) rfl)) (by decide) at_45 (lenOf pd_0 rfl) rfl rfl (by decide) (W := 0) (Nat.le_of_eq rfl) (by decide) (by decide) (by decide) (q := 48) rfl
  rw [eh] at w
  replace w := w [(.long (own_unmix (own_mix (x0 + own_start x1 * (-7046029254386353131 : Int64) + (-7046029254386353131 : Int64)))))] rfl
  replace w := w.lloadN (q := 49) (v := x0) at_48 rfl rfl
  replace w := w.lload (q := 51) (v := z42) at_49 rfl rfl
  replace w := w.lconst (q := 52) (z := (1 : Int64)) at_51 (by decide) rfl
  obtain ⟨z43, hz43⟩ : ∃ z : Int64, z42 + (1 : Int64) = z := ⟨_, rfl⟩
  replace w := w.ladd (q := 53) at_52 hz43 rfl
  replace w := w.lload (q := 55) (v := (-7046029254386353131 : Int64)) at_53 rfl rfl
  obtain ⟨z44, hz44⟩ : ∃ z : Int64, z43 * (-7046029254386353131 : Int64) = z := ⟨_, rfl⟩
  replace w := w.lmul (q := 56) at_55 hz44 rfl
  obtain ⟨z45, hz45⟩ : ∃ z : Int64, x0 + z44 = z := ⟨_, rfl⟩
  replace w := w.ladd (q := 57) at_56 hz45 rfl
  obtain ⟨k1, hk1⟩ : ∃ z : Int32, XT.cmpL (own_unmix (own_mix (x0 + own_start x1 * (-7046029254386353131 : Int64) + (-7046029254386353131 : Int64)))) z45 = z := ⟨_, rfl⟩
  replace w := w.lcmp (q := 58) at_57 hk1 rfl
  obtain ⟨hc58, w⟩ := (w.ifNe (q := 105) (q' := 61) (xi := k1.toInt) at_58 rfl (by decide) (by decide) rfl).resolve_left (fun g => by have hc58 := g.1; exact hc58 (own_cmp hk1 (by rw [own_unmix_mix, own_next]; subst_vars; rfl)))
  replace w := w.lload (q := 63) (v := (own_mix (x0 + own_start x1 * (-7046029254386353131 : Int64) + (-7046029254386353131 : Int64) + (-7046029254386353131 : Int64)))) at_61 rfl rfl
  obtain ⟨_, _, ⟨eh, rfl⟩, w⟩ := w.callS (y := (⟨"com/example/lucky_fork/luckyfork/sim/SampleRandomNextLongPinLaw", "unmix", "(J)J"⟩ : MethodName)) (argsL := [(.long (own_mix (x0 + own_start x1 * (-7046029254386353131 : Int64) + (-7046029254386353131 : Int64) + (-7046029254386353131 : Int64))))]) (rest := []) (own_un l Z a0 hw h5 n0 (Nat.le_of_lt (Nat.lt_of_le_of_lt ge (Exa.lt E4))) (own_mix (x0 + own_start x1 * (-7046029254386353131 : Int64) + (-7046029254386353131 : Int64) + (-7046029254386353131 : Int64)))) (hw _ (List.mem_of_getElem? (i := 20) rfl)) (hw _ (List.mem_of_getElem? (i := 21) rfl)) (hw _ (List.mem_of_getElem? (i := 22) rfl)) (hw _ (List.mem_of_getElem? (i := 23) rfl)) (by decide) at_63 (lenOf pd_0 rfl) rfl rfl (by decide) (W := 0) (Nat.le_of_eq rfl) (by decide) (by decide) (by decide) (q := 66) rfl
  rw [eh] at w
  replace w := w [(.long (own_unmix (own_mix (x0 + own_start x1 * (-7046029254386353131 : Int64) + (-7046029254386353131 : Int64) + (-7046029254386353131 : Int64)))))] rfl
  replace w := w.lloadN (q := 67) (v := x0) at_66 rfl rfl
  replace w := w.lload (q := 69) (v := z42) at_67 rfl rfl
  replace w := w.ldcJ (q := 72) (z := (2 : Int64)) (hw _ (List.mem_of_getElem? (i := 28) rfl)) at_69 rfl
  obtain ⟨z46, hz46⟩ : ∃ z : Int64, z42 + (2 : Int64) = z := ⟨_, rfl⟩
  replace w := w.ladd (q := 73) at_72 hz46 rfl
  replace w := w.lload (q := 75) (v := (-7046029254386353131 : Int64)) at_73 rfl rfl
  obtain ⟨z47, hz47⟩ : ∃ z : Int64, z46 * (-7046029254386353131 : Int64) = z := ⟨_, rfl⟩
  replace w := w.lmul (q := 76) at_75 hz47 rfl
  obtain ⟨z48, hz48⟩ : ∃ z : Int64, x0 + z47 = z := ⟨_, rfl⟩
  replace w := w.ladd (q := 77) at_76 hz48 rfl
  obtain ⟨k2, hk2⟩ : ∃ z : Int32, XT.cmpL (own_unmix (own_mix (x0 + own_start x1 * (-7046029254386353131 : Int64) + (-7046029254386353131 : Int64) + (-7046029254386353131 : Int64)))) z48 = z := ⟨_, rfl⟩
  replace w := w.lcmp (q := 78) at_77 hk2 rfl
  obtain ⟨hc78, w⟩ := (w.ifNe (q := 105) (q' := 81) (xi := k2.toInt) at_78 rfl (by decide) (by decide) rfl).resolve_left (fun g => by have hc78 := g.1; exact hc78 (own_cmp hk2 (by rw [own_unmix_mix, own_n2]; subst_vars; rfl)))
  replace w := w.lload (q := 83) (v := (own_mix (x0 + own_start x1 * (-7046029254386353131 : Int64) + (-7046029254386353131 : Int64) + (-7046029254386353131 : Int64) + (-7046029254386353131 : Int64)))) at_81 rfl rfl
  obtain ⟨_, _, ⟨eh, rfl⟩, w⟩ := w.callS (y := (⟨"com/example/lucky_fork/luckyfork/sim/SampleRandomNextLongPinLaw", "unmix", "(J)J"⟩ : MethodName)) (argsL := [(.long (own_mix (x0 + own_start x1 * (-7046029254386353131 : Int64) + (-7046029254386353131 : Int64) + (-7046029254386353131 : Int64) + (-7046029254386353131 : Int64))))]) (rest := []) (own_un l Z a0 hw h5 n0 (Nat.le_of_lt (Nat.lt_of_le_of_lt ge (Exa.lt E4))) (own_mix (x0 + own_start x1 * (-7046029254386353131 : Int64) + (-7046029254386353131 : Int64) + (-7046029254386353131 : Int64) + (-7046029254386353131 : Int64)))) (hw _ (List.mem_of_getElem? (i := 20) rfl)) (hw _ (List.mem_of_getElem? (i := 21) rfl)) (hw _ (List.mem_of_getElem? (i := 22) rfl)) (hw _ (List.mem_of_getElem? (i := 23) rfl)) (by decide) at_83 (lenOf pd_0 rfl) rfl rfl (by decide) (W := 0) (Nat.le_of_eq rfl) (by decide) (by decide) (by decide) (q := 86) rfl
  rw [eh] at w
  replace w := w [(.long (own_unmix (own_mix (x0 + own_start x1 * (-7046029254386353131 : Int64) + (-7046029254386353131 : Int64) + (-7046029254386353131 : Int64) + (-7046029254386353131 : Int64)))))] rfl
  replace w := w.lloadN (q := 87) (v := x0) at_86 rfl rfl
  replace w := w.lload (q := 89) (v := z42) at_87 rfl rfl
  replace w := w.ldcJ (q := 92) (z := (3 : Int64)) (hw _ (List.mem_of_getElem? (i := 30) rfl)) at_89 rfl
  obtain ⟨z49, hz49⟩ : ∃ z : Int64, z42 + (3 : Int64) = z := ⟨_, rfl⟩
  replace w := w.ladd (q := 93) at_92 hz49 rfl
  replace w := w.lload (q := 95) (v := (-7046029254386353131 : Int64)) at_93 rfl rfl
  obtain ⟨z50, hz50⟩ : ∃ z : Int64, z49 * (-7046029254386353131 : Int64) = z := ⟨_, rfl⟩
  replace w := w.lmul (q := 96) at_95 hz50 rfl
  obtain ⟨z51, hz51⟩ : ∃ z : Int64, x0 + z50 = z := ⟨_, rfl⟩
  replace w := w.ladd (q := 97) at_96 hz51 rfl
  obtain ⟨k3, hk3⟩ : ∃ z : Int32, XT.cmpL (own_unmix (own_mix (x0 + own_start x1 * (-7046029254386353131 : Int64) + (-7046029254386353131 : Int64) + (-7046029254386353131 : Int64) + (-7046029254386353131 : Int64)))) z51 = z := ⟨_, rfl⟩
  replace w := w.lcmp (q := 98) at_97 hk3 rfl
  obtain ⟨hc98, w⟩ := (w.ifNe (q := 105) (q' := 101) (xi := k3.toInt) at_98 rfl (by decide) (by decide) rfl).resolve_left (fun g => by have hc98 := g.1; exact hc98 (own_cmp hk3 (by rw [own_unmix_mix, own_n3]; subst_vars; rfl)))
  replace w := w.iconst (q := 102) (z := (1 : Int32)) at_101 (by decide) rfl
  replace w := w.goto (q := 106) at_102 (by decide) (by decide)
  exact w.retZ at_106 (z := 1) (by decide) rfl (by decide) (by decide)
set_option maxRecDepth 65536 in
set_option maxHeartbeats 40000000 in
theorem comes_1 {Post : Tables → Env → Array Value → State → Outcome → State → Prop} (hpost : ∀ tb e args s v u, (limb_1_1.after args s (.returned v) u = true ∧ limb_1_2.after args s (.returned v) u = true ∧ True) → FrameEnd s (.returned v) u (Jvm.fieldLocs frame_1_writes args s ++ Jvm.arrayLocs frame_1_arrays args s ++ Jvm.staticLocs frame_1_statics s) 16 128 → Post tb e args s (.returned v) u) :
    ArmFor flags0 classFile x code maxLocals ret World_1 tables_1 room_1 Calls_1 rest_1 Pre_1 Post := by
  intro l hfl _ _ p e ha hc hk s m args below hf hA hF happ hP
  obtain ⟨hcalls, hrest, hpre⟩ := hP
  obtain ⟨-, -, -, hnamed, -, -, -, hat⟩ := (Spec.applies_iff hf).mp happ
  obtain ⟨hg, hn⟩ := and_e (Cond.before_iff.mp (show (Jvm.Cond.and given_1 narrow_1).before args s = true from hpre))
  obtain ⟨hg0, hk0⟩ := and_e hg
  obtain ⟨g0, hk1⟩ := and_e hk0
  obtain ⟨v0, v1, rfl⟩ : ∃ v0 v1 : Value, args = #[v0, v1] := by
    have hs : args.size = 2 := by simpa [Cond.value, given_1] using hg0
    obtain ⟨L⟩ := args
    match L, hs with
    | [v0, v1], _ => exact ⟨v0, v1, rfl⟩
  have hw := fun d (hd : d ∈ tables_1) => atoms_spec (ws := Jvm.Cond.code x code maxLocals ret :: tables_1) hat d (List.mem_cons_of_mem _ hd)
  obtain ⟨i0, e0⟩ := isL_v g0
  obtain rfl : v0 = (.long i0) := Option.some.inj e0
  obtain ⟨i1, e1⟩ := isL_v hk1
  obtain rfl : v1 = (.long i1) := Option.some.inj e1
  obtain ⟨n, o, h1, h2, h3, _, L, rfl, ⟨hv, N⟩, hq⟩ := own_law l s _ hw s.heap s.heap.size (Nat.le_refl _) i0 i1  tables_1 p e ha hc hk s m _ below hf ((Spec.applies_iff_loose hf).mp happ).1 ⟨rfl, State.Warmed39.refl s, rfl⟩ trivial
  subst hv
  refine ⟨n, _, h1, h2, h3, hpost _ _ _ _ _ _ ⟨Cond.after_iff.mpr rfl, Cond.after_iff.mpr (eq_i res_at (Term.int_eval (1)) rfl), trivial⟩ ⟨hq.1, hq.2.1, (hq.2.2.sift fun y hy => Or.inr (N y hy)).mono (by decide) (by decide)⟩⟩
theorem main_1_1 : Claimed_1_1 := comes_1 fun _ _ _ _ _ _ h hF => ⟨h.1, hF⟩
theorem main_1_2 : Claimed_1_2 := comes_1 fun _ _ _ _ _ _ h hF => ⟨h.2.1, hF⟩
end Jvm.Pilot.@@N@@
namespace Jvm.Pilot.@@N@@
open Jvm Jvm.ClassFile Sem Op Lib Jvm.Free Jvm.Stand Jvm.Pilot.@@N@@.Jvm.D
/-! MADE BY PROGRAM (witnessworld.py) out of the Statement's table words and the real class files: 9 classes; the members and pool entries that the words name. The judged class is class 1, her method 3. -/
namespace start1
open Jvm.ClassFile
def u (s : String) : CpInfo := .utf8 (stringToUtf16 s)
/-- a pool by its gaps: so many unusable entries, then the entry; so many at the end -/
def gap : Nat → List CpInfo → List CpInfo
  | 0, r => r
  | n + 1, r => .unusable :: gap n r
def poolList (es : List (Nat × CpInfo)) (last : Nat) : List CpInfo := es.foldr (fun e r => gap e.1 (e.2 :: r)) (gap last [])
def pool (es : List (Nat × CpInfo)) (last : Nat) : Array CpInfo := ⟨poolList es last⟩
def fileOf (pool : Array CpInfo) (this : Nat) (attrs : Array Attribute := #[]) (ms : Array MethodInfo := #[]) (fl : Nat := 33) (sup : Nat := 0) (ifs : Array Nat := #[]) (fds : Array FieldInfo := #[]) : ClassFile where
  minorVersion := 0
  majorVersion := 65
  constantPool := pool
  accessFlags := fl
  thisClass := this
  superClass := sup
  interfaces := ifs
  fields := fds
  methods := ms
  attributes := attrs
def plain (name : String) (sup : Option ClassId) : Class where
  name := name
  kind := .ordinary
  loader := none
  accessFlags := 33
  super := sup
  interfaces := #[]
  cf := none
  fields := #[]
  methods := #[]
  instanceTypes := #[]
  staticTypes := #[]
  resolved := #[]
  callSites := []
  init := .initialized
  statics := none
  mirror := none

def pool0 : Array CpInfo := pool [(5, u "<init>"), (0, u "()V"), (1, .class_ 10), (1, u "java/lang/Object")] 113

def k0c0 : Code := { maxStack := 0, maxLocals := 1, code := object_method_1_code, exceptionTable := #[], attributes := #[] }
def k0m0 : Method := { name := "<init>", desc := "()V", sig := { parameters := [], returnType := none }, accessFlags := 1, code := some k0c0 }
/-- java/lang/Object -/
def k0 : Class := { plain "java/lang/Object" none with
  accessFlags := 33
  interfaces := #[]
  cf := some (fileOf pool0 8 #[] #[{ accessFlags := 1, nameIndex := 5, descriptorIndex := 6, attributes := #[] }] 33 0 #[] #[])
  fields := #[]
  methods := #[k0m0]
  instanceTypes := #[]
  staticTypes := #[]
  resolved := Array.replicate 124 none
  statics := none }

def pool1 : Array CpInfo := pool [(2, .class_ 4), (1, u "java/lang/Object"), (0, u "<init>"), (0, u "()V"), (0, .long 2), (1, .long 10723151780598845931), (1, .methodref 12 13), (0, .class_ 14), (0, .nameAndType 15 16), (0, u "com/example/lucky_fork/luckyfork/sim/SampleRandomNextLongPinLaw"), (0, u "inverse"), (0, u "(J)J"), (0, .long 13787848793156543929), (1, .class_ 20), (0, u "com/example/lucky_fork/luckyfork/sim/SampleRandom"), (0, .methodref 19 22), (0, .nameAndType 5 23), (0, u "(JJ)V"), (0, .methodref 19 25), (0, .nameAndType 26 27), (0, u "nextLong"), (0, u "()J"), (0, .long 11400714819323198485), (1, .methodref 12 31), (0, .nameAndType 32 16), (0, u "unmix"), (0, .long 3), (3, u "law"), (0, u "(JJ)Z")] 3

def k1m0 : Method := { name := "<init>", desc := "()V", sig := { parameters := [], returnType := none }, accessFlags := 1, code := none }
def k1c1 : Code := { maxStack := 8, maxLocals := 4, code := method_2_code, exceptionTable := #[], attributes := #[] }
def k1m1 : Method := { name := "inverse", desc := "(J)J", sig := { parameters := [.long], returnType := some .long }, accessFlags := 10, code := some k1c1 }
def k1c2 : Code := { maxStack := 5, maxLocals := 2, code := method_3_code, exceptionTable := #[], attributes := #[] }
def k1m2 : Method := { name := "unmix", desc := "(J)J", sig := { parameters := [.long], returnType := some .long }, accessFlags := 10, code := some k1c2 }
def k1c3 : Code := { maxStack := 8, maxLocals := 15, code := code, exceptionTable := #[], attributes := #[] }
def k1m3 : Method := { name := "law", desc := "(JJ)Z", sig := { parameters := [.long, .long], returnType := some .boolean }, accessFlags := 9, code := some k1c3 }
/-- com/example/lucky_fork/luckyfork/sim/SampleRandomNextLongPinLaw -/
def k1 : Class := { plain "com/example/lucky_fork/luckyfork/sim/SampleRandomNextLongPinLaw" (some 0) with
  accessFlags := 49
  interfaces := #[]
  cf := some (fileOf pool1 12 #[] #[{ accessFlags := 1, nameIndex := 5, descriptorIndex := 6, attributes := #[] }, { accessFlags := 10, nameIndex := 15, descriptorIndex := 16, attributes := #[] }, { accessFlags := 10, nameIndex := 32, descriptorIndex := 16, attributes := #[] }, { accessFlags := 9, nameIndex := 37, descriptorIndex := 38, attributes := #[] }] 49 2 #[] #[])
  fields := #[]
  methods := #[k1m0, k1m1, k1m2, k1m3]
  instanceTypes := #[]
  staticTypes := #[]
  resolved := Array.replicate 42 none
  statics := none }

def pool2 : Array CpInfo := pool [(1, .methodref 2 3), (0, .class_ 4), (0, .nameAndType 5 6), (0, u "java/lang/Object"), (0, u "<init>"), (0, u "()V"), (0, .class_ 8), (0, u "com/example/lucky_fork/luckyfork/sim/SampleRandom"), (0, .long 11400714819323198485), (1, .fieldref 7 12), (0, .nameAndType 13 14), (0, u "state"), (0, u "J"), (0, .long 13787848793156543929), (1, .long 10723151780598845931), (3, u "nextLong"), (0, u "()J"), (2, u "GAMMA"), (1, u "(JJ)V")] 6

def k2c0 : Code := { maxStack := 7, maxLocals := 5, code := prog_154_method_1_code, exceptionTable := #[], attributes := #[] }
def k2m0 : Method := { name := "<init>", desc := "(JJ)V", sig := { parameters := [.long, .long], returnType := none }, accessFlags := 0, code := some k2c0 }
def k2c1 : Code := { maxStack := 5, maxLocals := 3, code := prog_154_method_2_code, exceptionTable := #[], attributes := #[] }
def k2m1 : Method := { name := "nextLong", desc := "()J", sig := { parameters := [], returnType := some .long }, accessFlags := 0, code := some k2c1 }
/-- com/example/lucky_fork/luckyfork/sim/SampleRandom -/
def k2 : Class := { plain "com/example/lucky_fork/luckyfork/sim/SampleRandom" (some 0) with
  accessFlags := 48
  interfaces := #[]
  cf := some (fileOf pool2 7 #[] #[{ accessFlags := 0, nameIndex := 5, descriptorIndex := 27, attributes := #[] }, { accessFlags := 0, nameIndex := 21, descriptorIndex := 22, attributes := #[] }] 48 2 #[] #[{ accessFlags := 26, nameIndex := 25, descriptorIndex := 14, attributes := #[] }, { accessFlags := 2, nameIndex := 13, descriptorIndex := 14, attributes := #[] }])
  fields := #[{ name := "GAMMA", type := .long, accessFlags := 26, slot := 0, constantValue := 0 }, { name := "state", type := .long, accessFlags := 2, slot := 0, constantValue := 0 }]
  methods := #[k2m0, k2m1]
  instanceTypes := #[.long]
  staticTypes := #[.long]
  resolved := Array.replicate 34 none
  statics := none }

def pool3 : Array CpInfo := pool [(1, u "java/lang/Cloneable"), (0, .class_ 1), (0, u "java/lang/Object"), (0, .class_ 3)] 3

/-- java/lang/Cloneable -/
def k3 : Class := { plain "java/lang/Cloneable" (some 0) with
  accessFlags := 1537
  interfaces := #[]
  cf := some (fileOf pool3 2 #[] #[] 1537 4 #[] #[])
  fields := #[]
  methods := #[]
  instanceTypes := #[]
  staticTypes := #[]
  resolved := Array.replicate 8 none
  statics := none }

def pool4 : Array CpInfo := pool [(1, u "java/io/Serializable"), (0, .class_ 1), (0, u "java/lang/Object"), (0, .class_ 3)] 3

/-- java/io/Serializable -/
def k4 : Class := { plain "java/io/Serializable" (some 0) with
  accessFlags := 1537
  interfaces := #[]
  cf := some (fileOf pool4 2 #[] #[] 1537 4 #[] #[])
  fields := #[]
  methods := #[]
  instanceTypes := #[]
  staticTypes := #[]
  resolved := Array.replicate 8 none
  statics := none }

/-- the primitive byte -/
def k5 : Class := { plain "byte" none with kind := .primitive 'B', accessFlags := 0x411 }
/-- [B -/
def k6 : Class := { plain "[B" (some 0) with kind := .array 5 .byte, interfaces := #[3, 4], accessFlags := 1041 }

/-- the primitive int -/
def k7 : Class := { plain "int" none with kind := .primitive 'I', accessFlags := 0x411 }
/-- [I -/
def k8 : Class := { plain "[I" (some 0) with kind := .array 7 .int, interfaces := #[3, 4], accessFlags := 1041 }

def heap : Heap := #[]
def classes : Array Class := #[k0, k1, k2, k3, k4, k5, k6, k7, k8]
def interned : List (Array UInt16 × Addr) := []
def slotsUsed : Nat := 0
def theMethod : MethodId := ⟨1, 3⟩
def args0 : Array Value := #[.long 5, .long 7]
def aboutOver (below : List Frame) : State where
  vm := { classes := classes, interned := interned.toArray }
  heap := heap
  slotsUsed := slotsUsed
  threads := #[{ frames := .invoking theMethod args0 :: below }]
def below0 : List Frame := [.native { method := ⟨0, 0⟩, args := #[] }]
def about1 : State := aboutOver below0
def p0 : Program := .bare "" "" ""
def e0 : Env := launch0.env 0 0 0
theorem w_frames : about1.frames = Frame.invoking theMethod args0 :: below0 := rfl
set_option maxRecDepth 65536 in
theorem w_args : argsFit about1.vm theMethod args0 = true := by decide +kernel
set_option maxRecDepth 65536 in
theorem w_heap : heapFits about1 = true := by decide +kernel
set_option maxRecDepth 65536 in
theorem w_runnable : about1.curStatus? = some .runnable := by decide +kernel
set_option maxRecDepth 65536 in
theorem w_alone : about1.alone = true := by decide +kernel
set_option maxRecDepth 65536 in
theorem w_named : about1.methodNamed? x = some theMethod := by decide +kernel
set_option maxRecDepth 65536 in
theorem w_hears : about1.hears theMethod below0 = true := by decide +kernel
set_option maxRecDepth 65536 in
theorem w_ripe : about1.ripe theMethod args0 below0 = true := by decide +kernel
theorem w_running : about1.status = .running := rfl
set_option maxRecDepth 65536 in
theorem w_room : about1.hasRoom e0.platform room_1 = true :=
  launch0.hasRoom_least _ room_1 (by decide +kernel) (by decide +kernel) (by decide +kernel) (by decide +kernel) (by decide +kernel) (by decide +kernel)
theorem allAtoms_all (ts : List Jvm.Cond) (a : Array Jvm.Value) (st : Jvm.State) : (allAtoms ts).before a st = ts.all (fun c => c.before a st) := by
  induction ts with
  | nil => rfl
  | cons c t ih =>
    show (Jvm.Cond.and c (allAtoms t)).before a st = _
    rw [Jvm.Cond.before_and, ih, List.all_cons]
def words1 : List Jvm.Cond := Jvm.Cond.code x code maxLocals ret :: tables_1
/-- a 'code' word, met by the world's own term for the bytes: nothing is compared byte by byte -/
theorem code_word {y : MethodName} {bytes : ByteArray} {mx : Nat} {rt : Option FieldType} {a : Array Value} {s : State} {m : MethodId} {meth : Method} {c : Code} (h1 : s.methodNamed? y = some m) (h2 : s.vm.method? m = some meth) (h3 : meth.code = some c) (h4 : c.code = bytes)
    (h5 : (c.maxLocals == mx && c.exceptionTable.isEmpty && decide (c.maxStack ≤ mostOperands) && decide (meth.sig.returnType = rt) && !meth.locks && decide (parseMethodDescriptor y.desc = some meth.sig)) = true) : (Jvm.Cond.code y bytes mx rt).before a s = true := by
  simp only [Bool.and_eq_true, beq_iff_eq, Bool.not_eq_true', decide_eq_true_eq] at h5
  obtain ⟨⟨⟨⟨⟨g1, g2⟩, g3⟩, g4⟩, g5⟩, g6⟩ := h5
  simp [Cond.before, Cond.holds, Cond.value, h1, h2, h3, h4, g1, g2, g3, g4, g5, g6]
def isCode : Jvm.Cond → Bool
  | .code _ _ _ _ => true
  | _ => false
theorem all_split {L : List Jvm.Cond} {P : Jvm.Cond → Bool} (h1 : L.all (fun c => isCode c || P c) = true) (h2 : ∀ c ∈ L.filter isCode, P c = true) : L.all P = true := by
  refine List.all_eq_true.mpr fun c hc => ?_
  have h := List.all_eq_true.mp h1 c hc
  rcases Bool.eq_false_or_eq_true (isCode c) with hi | hi
  · exact h2 c (List.mem_filter.mpr ⟨hc, hi⟩)
  · simpa [hi] using h
set_option maxRecDepth 65536 in
theorem w_c0 : (Jvm.Cond.code x code maxLocals ret).before args0 about1 = true := code_word (m := ⟨1, 3⟩) (meth := k1m3) (c := k1c3) (by decide +kernel) rfl rfl rfl (by decide +kernel)
set_option maxRecDepth 65536 in
theorem w_c1 : (Jvm.Cond.code ({ cls := "com/example/lucky_fork/luckyfork/sim/SampleRandom", name := "<init>", desc := "(JJ)V" } : Jvm.MethodName) prog_154_method_1_code (5 : Nat) (Option.none : Option Jvm.ClassFile.FieldType)).before args0 about1 = true := code_word (m := ⟨2, 0⟩) (meth := k2m0) (c := k2c0) (by decide +kernel) rfl rfl rfl (by decide +kernel)
set_option maxRecDepth 65536 in
theorem w_c2 : (Jvm.Cond.code ({ cls := "java/lang/Object", name := "<init>", desc := "()V" } : Jvm.MethodName) object_method_1_code (1 : Nat) (Option.none : Option Jvm.ClassFile.FieldType)).before args0 about1 = true := code_word (m := ⟨0, 0⟩) (meth := k0m0) (c := k0c0) (by decide +kernel) rfl rfl rfl (by decide +kernel)
set_option maxRecDepth 65536 in
theorem w_c3 : (Jvm.Cond.code ({ cls := "com/example/lucky_fork/luckyfork/sim/SampleRandom", name := "nextLong", desc := "()J" } : Jvm.MethodName) prog_154_method_2_code (3 : Nat) (Option.some Jvm.ClassFile.FieldType.long)).before args0 about1 = true := code_word (m := ⟨2, 1⟩) (meth := k2m1) (c := k2c1) (by decide +kernel) rfl rfl rfl (by decide +kernel)
set_option maxRecDepth 65536 in
theorem w_c4 : (Jvm.Cond.code ({ cls := "com/example/lucky_fork/luckyfork/sim/SampleRandomNextLongPinLaw", name := "unmix", desc := "(J)J" } : Jvm.MethodName) method_3_code (2 : Nat) (Option.some Jvm.ClassFile.FieldType.long)).before args0 about1 = true := code_word (m := ⟨1, 2⟩) (meth := k1m2) (c := k1c2) (by decide +kernel) rfl rfl rfl (by decide +kernel)
set_option maxRecDepth 65536 in
theorem w_c5 : (Jvm.Cond.code ({ cls := "com/example/lucky_fork/luckyfork/sim/SampleRandomNextLongPinLaw", name := "inverse", desc := "(J)J" } : Jvm.MethodName) method_2_code (4 : Nat) (Option.some Jvm.ClassFile.FieldType.long)).before args0 about1 = true := code_word (m := ⟨1, 1⟩) (meth := k1m1) (c := k1c1) (by decide +kernel) rfl rfl rfl (by decide +kernel)
def codes1 : List Jvm.Cond := [Jvm.Cond.code x code maxLocals ret, Jvm.Cond.code ({ cls := "com/example/lucky_fork/luckyfork/sim/SampleRandom", name := "<init>", desc := "(JJ)V" } : Jvm.MethodName) prog_154_method_1_code (5 : Nat) (Option.none : Option Jvm.ClassFile.FieldType), Jvm.Cond.code ({ cls := "java/lang/Object", name := "<init>", desc := "()V" } : Jvm.MethodName) object_method_1_code (1 : Nat) (Option.none : Option Jvm.ClassFile.FieldType), Jvm.Cond.code ({ cls := "com/example/lucky_fork/luckyfork/sim/SampleRandom", name := "nextLong", desc := "()J" } : Jvm.MethodName) prog_154_method_2_code (3 : Nat) (Option.some Jvm.ClassFile.FieldType.long), Jvm.Cond.code ({ cls := "com/example/lucky_fork/luckyfork/sim/SampleRandomNextLongPinLaw", name := "unmix", desc := "(J)J" } : Jvm.MethodName) method_3_code (2 : Nat) (Option.some Jvm.ClassFile.FieldType.long), Jvm.Cond.code ({ cls := "com/example/lucky_fork/luckyfork/sim/SampleRandomNextLongPinLaw", name := "inverse", desc := "(J)J" } : Jvm.MethodName) method_2_code (4 : Nat) (Option.some Jvm.ClassFile.FieldType.long)]
set_option maxRecDepth 65536 in
theorem codes_eq : words1.filter isCode = codes1 := rfl
theorem w_codes : ∀ c ∈ words1.filter isCode, c.before args0 about1 = true := by
  rw [codes_eq]
  intro c hc
  simp only [codes1, List.mem_cons, List.not_mem_nil, or_false] at hc
  rcases hc with rfl | rfl | rfl | rfl | rfl | rfl
  · exact w_c0
  · exact w_c1
  · exact w_c2
  · exact w_c3
  · exact w_c4
  · exact w_c5
set_option maxRecDepth 65536 in
theorem w_t1 : (words1.take 24).all (fun c => isCode c || c.before args0 about1) = true := by decide +kernel
set_option maxRecDepth 65536 in
theorem w_t2 : (words1.drop 24).all (fun c => isCode c || c.before args0 about1) = true := by decide +kernel
theorem w_tables : (allAtoms (Jvm.Cond.code x code maxLocals ret :: tables_1)).before args0 about1 = true := by
  rw [allAtoms_all]
  show words1.all (fun c => c.before args0 about1) = true
  refine all_split ?_ w_codes
  rw [← List.take_append_drop 24 words1, List.all_append, w_t1, w_t2]
  rfl
set_option maxRecDepth 65536 in
theorem w_case : (Jvm.Cond.and given_1 narrow_1).before args0 about1 = true := by decide +kernel
theorem w_applies : (headSpec (Jvm.Cond.code x code maxLocals ret :: tables_1) room_1).applies x e0.platform about1 = true :=
  (Spec.applies_iff w_frames).mpr ⟨w_running, w_runnable, w_alone, w_named, w_hears, w_ripe, w_room, w_tables⟩
theorem atStart : AtStart classFile x code maxLocals ret World_1 tables_1 room_1 Calls_1 rest_1 Pre_1 launch0 p0 e0 about1 theMethod args0 below0 :=
  ⟨lists_1, trivial, launch0.admits_env _ _ _, launch0.least_env, fairChoices_fair.cas, fairChoices_fair.clock, w_frames, w_args, w_heap, w_applies, trivial, trivial, w_case⟩
end start1
theorem witness_1 : WitnessClaimed_1 := ⟨start1.p0, start1.e0, start1.about1, start1.theMethod, start1.args0, start1.below0, start1.atStart⟩
end Jvm.Pilot.@@N@@
