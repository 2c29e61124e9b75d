import JvmDerived
import JvmDerived.Pilot.@@N@@Statement
import JvmDerived.Pilot.@@N@@Code
set_option linter.unusedVariables false
set_option linter.unusedSimpArgs false
@@BLOCK:NumsL.lean.txt@@
namespace Jvm.OwnWP
open Sem ClassFile Op Lib Jvm.Free Jvm.Stand Jvm.LawKit Jvm.RoadKit
/-! ## the ghost heap: what the law has made so far, cell by cell -/
/-- a field: the class that declares it, its name, its descriptor, its type -/
abbrev Fd := String × String × String × FieldType
/-- a class: its name, its number of slots, its fields -/
abbrev Sig := List (String × Nat × List Fd)
/-- an object: the number of its class, or an array's element type; the fields' values in the class's order, or the components -/
abbrev Obj := (Nat ⊕ FieldType) × List Value
abbrev Ghost := List Obj
def ObjAt (sig : Sig) (Z : State) (h : Heap) (a : Addr) : Obj → Prop
  | (.inl ci, vs) => ∃ (C : String) (n : Nat) (fs : List Fd), sig[ci]? = some (C, n, fs) ∧ Exa Z h a C ∧ vs.length = fs.length ∧ ∀ (i : Nat) (O nm d : String) (ty : FieldType) (v : Value), fs[i]? = some (O, nm, d, ty) → vs[i]? = some v → Fld Z h a O nm d v
  | (.inr ty, vs) => ∃ c : Cell, Arr Z h a c ty ∧ c.slots.toList = vs ∧ vs.length < 2 ^ 31 ∧ (∀ v ∈ vs, fits ty v = true) ∧ Z.vm.findClass ("[" ++ ty.toString) = some c.cls
def Rep (sig : Sig) (Z : State) (n0 : Nat) (h : Heap) (G : Ghost) : Prop :=
  n0 = Z.heap.size ∧ Ext Z.heap h ∧ h.size = n0 + G.length ∧ ∀ (k : Nat) (o : Obj), G[k]? = some o → ObjAt sig Z h (n0 + k) o
/-- the sheet's words for the classes of `sig` -/
def SigOk (tab : List Jvm.Cond) (sig : Sig) : Prop :=
  ∀ (ci : Nat) (C : String) (n : Nat) (fs : List Fd), sig[ci]? = some (C, n, fs) → Jvm.Cond.instantiable C n ∈ tab ∧ (∀ f ∈ fs, (Jvm.Cond.lays C f.1 f.2.1 f.2.2.1 ∈ tab ∨ Jvm.Cond.laysFinal C f.1 f.2.1 f.2.2.1 ∈ tab) ∧ parseFieldDescriptor f.2.2.1 = some f.2.2.2) ∧ (fs.map (·.2.1)).Nodup
theorem tw {α : Type} {l : List α} (i : Nat) {x : α} (h : l[i]? = some x) : x ∈ l := List.mem_of_getElem? h
abbrev JT := Nat → List Slot → List Value → Ghost → Nat → Nat → Prop
abbrev Post := Option Value → Ghost → Prop
def Fin1 (sig : Sig) (Z : State) (n0 : Nat) (Q : Post) (KC KS : Nat) (p : Program) (e : Env) (below : List Frame) (s : State) (U : State) : Prop :=
  ∃ t o, Steps p.tables e below U t ∧ t.status = .running ∧ Ended t below o ∧ ∃ v L, o = .returned v ∧ (∃ G', Rep sig Z n0 t.heap G' ∧ Q v G' ∧ Fr n0 L) ∧ FrameEnd s o t L KC KS
def Wp (sig : Sig) (Z : State) (n0 : Nat) (Q : Post) (p : Program) (l : Launch) (e : Env) (R : Room) (s : State) (m : MethodId) (args : Array Value) (below : List Frame) (meth : Method) (c : Code) : JT :=
  fun pc Ls S G k sl => ∀ T locs, Stand p l e R s m args below meth c T locs k sl → Rep sig Z n0 T.heap G → Fr n0 locs → Fin1 sig Z n0 Q R.cells R.slots p e below s (T.setTop (mkF m pc Ls.toArray S))
/-- J is the weakest precondition of one body's walk -/
def Walk (tab : List Jvm.Cond) (sig : Sig) (l : Launch) (Z : State) (a0 : Array Value) (n0 : Nat) (own nm : String) (bytes : ByteArray) (maxL : Nat) (ret : Option FieldType) (R : Room) (Q : Post) (J : JT) : Prop :=
  ∃ p e s m args below meth c, J = Wp sig Z n0 Q p l e R s m args below meth c ∧ p.tables.exec = Jvm.exec ∧ c.code = bytes ∧ c.maxLocals = maxL ∧ meth.sig.returnType = ret ∧ meth.locks = false ∧ meth.name = nm ∧ Z.Warmed39 s.vm ∧ s.vm.findClass own = some m.cls ∧ (∀ d ∈ tab, d.before a0 Z = true) ∧ SigOk tab sig
/-- the contract of a method: at the arguments `as` and the ghost heap G it returns, and Q holds of what it returns and of the ghost heap it leaves -/
def Meth (sig : Sig) (l : Launch) (Z : State) (n0 : Nat) (y : MethodName) (bytes : ByteArray) (maxL : Nat) (ret : Option FieldType) (R : Room) (as : List Value) (G : Ghost) (Q : Post) : Prop :=
  ∀ (ws : List Jvm.Cond) (h0 : Heap), Rep sig Z n0 h0 G → MetFree l y (head1 (Jvm.Cond.code y bytes maxL ret :: ws) R) (fun a U => a = as.toArray ∧ Z.Warmed39 U.vm ∧ U.heap = h0) (fun _ _ _ _ _ => True)
    (fun _ U o U' => ∃ v L, o = .returned v ∧ (∃ G', Rep sig Z n0 U'.heap G' ∧ Q v G' ∧ Fr n0 L) ∧ FrameEnd U o U' L R.cells R.slots)
section Body
variable {tab : List Jvm.Cond} {sig : Sig} {l : Launch} {Z : State} {a0 : Array Value} {n0 : Nat} {bytes : ByteArray} {maxL : Nat} {ret : Option FieldType} {R : Room} {Q : Post}
theorem Meth.of {y : MethodName} {as : List Value} {G : Ghost} {Ls : List Slot} (hpl : plainFor y = true) (hw : ∀ d ∈ tab, d.before a0 Z = true) (hS : SigOk tab sig)
    (hent : ∀ m, entryFrame m as.toArray maxL = mkF m 0 Ls.toArray [])
    (body : ∀ J, Walk tab sig l Z a0 n0 y.cls y.name bytes maxL ret R Q J → J 0 Ls [] G 0 0) : Meth sig l Z n0 y bytes maxL ret R as G Q := by
  intro ws h0 hrep
  refine MetFree.of_bodySF hpl hisR ?_
  intro p e s m args below meth c s₁ Bd hml0 hP hK
  obtain ⟨rfl, hZ, hh⟩ := hP
  have hown : s.vm.findClass y.cls = some m.cls := findClass_of_methodNamed Bd.named
  have hnm := (name_of_methodNamed Bd.named Bd.method).1
  have X0 : Stand p l e R s m as.toArray below meth c s₁ [] 0 0 := Stand.of_body Bd
  have e0 : s₁.heap = h0 := by rw [← hh, Bd.state]; rfl
  have J := body _ ⟨p, e, s, m, as.toArray, below, meth, c, rfl, Bd.exec, Bd.bytes, hml0, Bd.returns, Bd.notSynchronized, hnm, hZ, hown, hw, hS⟩ s₁ [] X0 (by rw [e0]; exact hrep) (Fr.nil n0)
  obtain ⟨t, o, st, r1, r2, v, L, r3, r4, r5⟩ := J
  exact ⟨t, o, castTop (hent m) st, r1, r2, v, L, r3, r4, r5⟩
end Body
/-! ## the local variables as a list -/
def ok1 : Option Slot → Bool
  | some .unset => true
  | some (.val (.long _)) => false
  | some (.val (.double _)) => false
  | some (.val _) => true
  | _ => false
def ok2 : Option Slot → Option Slot → Bool
  | some .unset, some .unset => true
  | some .unset, some (.val (.int _)) => true
  | some .unset, some (.val .null) => true
  | some .unset, some (.val (.ref _)) => true
  | some (.val (.int _)), some .unset => true
  | some (.val (.int _)), some (.val (.int _)) => true
  | some (.val (.int _)), some (.val .null) => true
  | some (.val (.int _)), some (.val (.ref _)) => true
  | some (.val .null), some .unset => true
  | some (.val .null), some (.val (.int _)) => true
  | some (.val .null), some (.val .null) => true
  | some (.val .null), some (.val (.ref _)) => true
  | some (.val (.ref _)), some .unset => true
  | some (.val (.ref _)), some (.val (.int _)) => true
  | some (.val (.ref _)), some (.val .null) => true
  | some (.val (.ref _)), some (.val (.ref _)) => true
  | some (.val (.long _)), some .second => true
  | _, _ => false
theorem store_one {Ls : List Slot} {i : Nat} {v : Value} (ho : ok1 Ls[i]? = true) (hv : v.category = 1) : storeLocals Ls.toArray i v = some (Ls.set i (.val v)).toArray := by
  have hlt : i < Ls.length := by
    rcases Nat.lt_or_ge i Ls.length with h | h
    · exact h
    · rw [List.getElem?_eq_none h] at ho; cases ho
  cases hq : Ls[i]? with
  | none => rw [hq] at ho; cases ho
  | some o =>
    rw [hq] at ho
    have e := XS.store1 (l := Ls.toArray) (i := i) (v := v) (o := o) (by simpa using hq) (by
      cases o with
      | unset => exact Or.inl rfl
      | second => cases ho
      | val w => exact Or.inr ⟨w, rfl, by cases w <;> first | rfl | (cases ho)⟩) hv
    rw [e]
    simp
theorem store_two {Ls : List Slot} {i : Nat} {v : Int64} (ho : ok2 Ls[i]? Ls[i + 1]? = true) : storeLocals Ls.toArray i (.long v) = some ((Ls.set i (.val (.long v))).set (i + 1) .second).toArray := by
  have hlt : i + 1 < Ls.length := by
    rcases Nat.lt_or_ge (i + 1) Ls.length with h | h
    · exact h
    · rw [List.getElem?_eq_none h] at ho
      generalize Ls[i]? = o at ho
      cases o with
      | none => cases ho
      | some o => cases o with
        | unset => cases ho
        | second => cases ho
        | val w => cases w <;> cases ho
  have hlt0 : i < Ls.length := by omega
  rw [List.getElem?_eq_getElem hlt, List.getElem?_eq_getElem hlt0] at ho
  have g0 : Ls.toArray[i]? = some Ls[i] := by simp [hlt0]
  have g1 : Ls.toArray[i + 1]? = some Ls[i + 1] := by simp [hlt]
  generalize Ls[i] = A at ho g0
  generalize Ls[i + 1] = B at ho g1
  cases A with
  | unset => cases B with
    | unset => simp_all [storeLocals, storeSelf, setAt, Value.category]
    | second => cases ho
    | val w => cases w <;> first | (cases ho; done) | simp_all [storeLocals, storeSelf, setAt, Value.category]
  | second => cases ho
  | val u => cases B with
    | unset => cases u <;> first | (cases ho; done) | simp_all [storeLocals, storeSelf, setAt, Value.category]
    | second => cases u <;> first | (cases ho; done) | (simp_all [storeLocals, storeSelf, setAt, Value.category]; rw [List.set_comm _ _ (show i + 1 ≠ i by omega), List.set_set])
    | val w => cases u <;> first | (cases ho; done) | (cases w <;> first | (cases ho; done) | simp_all [storeLocals, storeSelf, setAt, Value.category])
theorem pop2L_step {p : Program} {l : Launch} {e : Env} {R : Room} {s : State} {m : MethodId} {args : Array Value} {below : List Frame} {meth : Method} {c : Code} {T : State} {locs : List Loc} {cells slots : Nat} {pc : Nat} {Ls : Array Slot} {x : Int64} {S : List Value} {target : State}
    (X : Stand p l e R s m args below meth c T locs cells slots) (hx : p.tables.exec = Jvm.exec) (hd : decode c.code pc = .ok (.pop2, 1)) (hr : Steps p.tables e below (T.setTop (mkF m (pc + 1) Ls S)) target) : Steps p.tables e below (T.setTop (mkF m pc Ls (.long x :: S))) target := by
  jvm_step X.here [X.here.top, hx, hd, Value.category]
  exact hr
section Steps
variable {tab : List Jvm.Cond} {sig : Sig} {l : Launch} {Z : State} {a0 : Array Value} {n0 : Nat} {own nm : String} {bytes : ByteArray} {maxL : Nat} {ret : Option FieldType} {R : Room} {Q : Post} {J : JT} {pc pc' : Nat} {Ls : List Slot} {S : List Value} {G : Ghost} {k sl : Nat}
theorem Walk.iload (W : Walk tab sig l Z a0 n0 own nm bytes maxL ret R Q J) {i : Nat} {v : Int32} (hd : decode bytes pc = .ok (.iload i, 2)) (hl : Ls[i]? = some (.val (.int v))) (hr : J pc' Ls (.int v :: S) G k sl) (hp : pc + 2 = pc' := by rfl) : J pc Ls (S) G k sl := by
  obtain ⟨p, e, s, m, args, below, meth, c, rfl, hx, hby, hml, hret, hlk, hnm, hZ, hown, hw, hS⟩ := W
  subst hp
  intro T locs X hG hF
  obtain ⟨t, o, st, h⟩ := hr T locs X hG hF
  exact ⟨t, o, XS.iload X.here hx rfl (Jvm.hb hby hd) (by simpa using hl) st, h⟩
theorem Walk.iloadN (W : Walk tab sig l Z a0 n0 own nm bytes maxL ret R Q J) {i : Fin 4} {v : Int32} (hd : decode bytes pc = .ok (.iload_n i, 1)) (hl : Ls[i.val]? = some (.val (.int v))) (hr : J pc' Ls (.int v :: S) G k sl) (hp : pc + 1 = pc' := by rfl) : J pc Ls (S) G k sl := by
  obtain ⟨p, e, s, m, args, below, meth, c, rfl, hx, hby, hml, hret, hlk, hnm, hZ, hown, hw, hS⟩ := W
  subst hp
  intro T locs X hG hF
  obtain ⟨t, o, st, h⟩ := hr T locs X hG hF
  exact ⟨t, o, XS.iloadN X.here hx rfl (Jvm.hb hby hd) (by simpa using hl) st, h⟩
theorem Walk.lload (W : Walk tab sig l Z a0 n0 own nm bytes maxL ret R Q J) {i : Nat} {v : Int64} (hd : decode bytes pc = .ok (.lload i, 2)) (hl : Ls[i]? = some (.val (.long v))) (hr : J pc' Ls (.long v :: S) G k sl) (hp : pc + 2 = pc' := by rfl) : J pc Ls (S) G k sl := by
  obtain ⟨p, e, s, m, args, below, meth, c, rfl, hx, hby, hml, hret, hlk, hnm, hZ, hown, hw, hS⟩ := W
  subst hp
  intro T locs X hG hF
  obtain ⟨t, o, st, h⟩ := hr T locs X hG hF
  exact ⟨t, o, XT.lload X.here hx rfl (Jvm.hb hby hd) (by simpa using hl) st, h⟩
theorem Walk.lloadN (W : Walk tab sig l Z a0 n0 own nm bytes maxL ret R Q J) {i : Fin 4} {v : Int64} (hd : decode bytes pc = .ok (.lload_n i, 1)) (hl : Ls[i.val]? = some (.val (.long v))) (hr : J pc' Ls (.long v :: S) G k sl) (hp : pc + 1 = pc' := by rfl) : J pc Ls (S) G k sl := by
  obtain ⟨p, e, s, m, args, below, meth, c, rfl, hx, hby, hml, hret, hlk, hnm, hZ, hown, hw, hS⟩ := W
  subst hp
  intro T locs X hG hF
  obtain ⟨t, o, st, h⟩ := hr T locs X hG hF
  exact ⟨t, o, XT.lloadN X.here hx rfl (Jvm.hb hby hd) (by simpa using hl) st, h⟩
theorem Walk.aload (W : Walk tab sig l Z a0 n0 own nm bytes maxL ret R Q J) {i : Nat} {v : Value} (hd : decode bytes pc = .ok (.aload i, 2)) (hl : Ls[i]? = some (.val v)) (hv : v.isRef = true) (hr : J pc' Ls (v :: S) G k sl) (hp : pc + 2 = pc' := by rfl) : J pc Ls (S) G k sl := by
  obtain ⟨p, e, s, m, args, below, meth, c, rfl, hx, hby, hml, hret, hlk, hnm, hZ, hown, hw, hS⟩ := W
  subst hp
  intro T locs X hG hF
  obtain ⟨t, o, st, h⟩ := hr T locs X hG hF
  exact ⟨t, o, XS.aload X.here hx rfl (Jvm.hb hby hd) (by simpa using hl) hv st, h⟩
theorem Walk.aloadN (W : Walk tab sig l Z a0 n0 own nm bytes maxL ret R Q J) {i : Fin 4} {v : Value} (hd : decode bytes pc = .ok (.aload_n i, 1)) (hl : Ls[i.val]? = some (.val v)) (hv : v.isRef = true) (hr : J pc' Ls (v :: S) G k sl) (hp : pc + 1 = pc' := by rfl) : J pc Ls (S) G k sl := by
  obtain ⟨p, e, s, m, args, below, meth, c, rfl, hx, hby, hml, hret, hlk, hnm, hZ, hown, hw, hS⟩ := W
  subst hp
  intro T locs X hG hF
  obtain ⟨t, o, st, h⟩ := hr T locs X hG hF
  exact ⟨t, o, XS.aloadN X.here hx rfl (Jvm.hb hby hd) (by simpa using hl) hv st, h⟩
theorem Walk.iconst (W : Walk tab sig l Z a0 n0 own nm bytes maxL ret R Q J) {i : Int} (v : Int32) (hd : decode bytes pc = .ok (.iconst i, 1)) (hv : Int32.ofInt i = v) (hr : J pc' Ls (.int v :: S) G k sl) (hp : pc + 1 = pc' := by rfl) : J pc Ls (S) G k sl := by
  obtain ⟨p, e, s, m, args, below, meth, c, rfl, hx, hby, hml, hret, hlk, hnm, hZ, hown, hw, hS⟩ := W
  subst hp
  intro T locs X hG hF
  obtain ⟨t, o, st, h⟩ := hr T locs X hG hF
  exact ⟨t, o, XT.iconstV X.here hx rfl v (Jvm.hb hby hd) hv st, h⟩
theorem Walk.bipush (W : Walk tab sig l Z a0 n0 own nm bytes maxL ret R Q J) {i : Int} (v : Int32) (hd : decode bytes pc = .ok (.bipush i, 2)) (hv : (Int8.ofInt i).toInt32 = v) (hr : J pc' Ls (.int v :: S) G k sl) (hp : pc + 2 = pc' := by rfl) : J pc Ls (S) G k sl := by
  obtain ⟨p, e, s, m, args, below, meth, c, rfl, hx, hby, hml, hret, hlk, hnm, hZ, hown, hw, hS⟩ := W
  subst hp
  intro T locs X hG hF
  obtain ⟨t, o, st, h⟩ := hr T locs X hG hF
  exact ⟨t, o, XT.bipushV X.here hx rfl v (Jvm.hb hby hd) hv st, h⟩
theorem Walk.sipush (W : Walk tab sig l Z a0 n0 own nm bytes maxL ret R Q J) {i : Int} (v : Int32) (hd : decode bytes pc = .ok (.sipush i, 3)) (hv : (Int16.ofInt i).toInt32 = v) (hr : J pc' Ls (.int v :: S) G k sl) (hp : pc + 3 = pc' := by rfl) : J pc Ls (S) G k sl := by
  obtain ⟨p, e, s, m, args, below, meth, c, rfl, hx, hby, hml, hret, hlk, hnm, hZ, hown, hw, hS⟩ := W
  subst hp
  intro T locs X hG hF
  obtain ⟨t, o, st, h⟩ := hr T locs X hG hF
  exact ⟨t, o, XT.sipushV X.here hx rfl v (Jvm.hb hby hd) hv st, h⟩
theorem Walk.lconst (W : Walk tab sig l Z a0 n0 own nm bytes maxL ret R Q J) {i : Fin 2} (v : Int64) (hd : decode bytes pc = .ok (.lconst i, 1)) (hv : Int64.ofNat i = v) (hr : J pc' Ls (.long v :: S) G k sl) (hp : pc + 1 = pc' := by rfl) : J pc Ls (S) G k sl := by
  obtain ⟨p, e, s, m, args, below, meth, c, rfl, hx, hby, hml, hret, hlk, hnm, hZ, hown, hw, hS⟩ := W
  subst hp
  intro T locs X hG hF
  obtain ⟨t, o, st, h⟩ := hr T locs X hG hF
  exact ⟨t, o, XT.lconstV X.here hx rfl v (Jvm.hb hby hd) hv st, h⟩
theorem Walk.aconstNull (W : Walk tab sig l Z a0 n0 own nm bytes maxL ret R Q J) (hd : decode bytes pc = .ok (.aconst_null, 1)) (hr : J pc' Ls (.null :: S) G k sl) (hp : pc + 1 = pc' := by rfl) : J pc Ls (S) G k sl := by
  obtain ⟨p, e, s, m, args, below, meth, c, rfl, hx, hby, hml, hret, hlk, hnm, hZ, hown, hw, hS⟩ := W
  subst hp
  intro T locs X hG hF
  obtain ⟨t, o, st, h⟩ := hr T locs X hG hF
  exact ⟨t, o, XS.aconstNull X.here hx rfl (Jvm.hb hby hd) st, h⟩
theorem Walk.iadd (W : Walk tab sig l Z a0 n0 own nm bytes maxL ret R Q J) {x y : Int32} (hd : decode bytes pc = .ok (.iadd, 1)) (hr : J pc' Ls (.int (x + y) :: S) G k sl) (hp : pc + 1 = pc' := by rfl) : J pc Ls (.int y :: .int x :: S) G k sl := by
  obtain ⟨p, e, s, m, args, below, meth, c, rfl, hx, hby, hml, hret, hlk, hnm, hZ, hown, hw, hS⟩ := W
  subst hp
  intro T locs X hG hF
  obtain ⟨t, o, st, h⟩ := hr T locs X hG hF
  exact ⟨t, o, XS.iadd X.here hx rfl (Jvm.hb hby hd) rfl st, h⟩
theorem Walk.isub (W : Walk tab sig l Z a0 n0 own nm bytes maxL ret R Q J) {x y : Int32} (hd : decode bytes pc = .ok (.isub, 1)) (hr : J pc' Ls (.int (x - y) :: S) G k sl) (hp : pc + 1 = pc' := by rfl) : J pc Ls (.int y :: .int x :: S) G k sl := by
  obtain ⟨p, e, s, m, args, below, meth, c, rfl, hx, hby, hml, hret, hlk, hnm, hZ, hown, hw, hS⟩ := W
  subst hp
  intro T locs X hG hF
  obtain ⟨t, o, st, h⟩ := hr T locs X hG hF
  exact ⟨t, o, XS.isub X.here hx rfl (Jvm.hb hby hd) rfl st, h⟩
theorem Walk.imul (W : Walk tab sig l Z a0 n0 own nm bytes maxL ret R Q J) {x y : Int32} (hd : decode bytes pc = .ok (.imul, 1)) (hr : J pc' Ls (.int (x * y) :: S) G k sl) (hp : pc + 1 = pc' := by rfl) : J pc Ls (.int y :: .int x :: S) G k sl := by
  obtain ⟨p, e, s, m, args, below, meth, c, rfl, hx, hby, hml, hret, hlk, hnm, hZ, hown, hw, hS⟩ := W
  subst hp
  intro T locs X hG hF
  obtain ⟨t, o, st, h⟩ := hr T locs X hG hF
  exact ⟨t, o, XS.imul X.here hx rfl (Jvm.hb hby hd) rfl st, h⟩
theorem Walk.iand (W : Walk tab sig l Z a0 n0 own nm bytes maxL ret R Q J) {x y : Int32} (hd : decode bytes pc = .ok (.iand, 1)) (hr : J pc' Ls (.int (x &&& y) :: S) G k sl) (hp : pc + 1 = pc' := by rfl) : J pc Ls (.int y :: .int x :: S) G k sl := by
  obtain ⟨p, e, s, m, args, below, meth, c, rfl, hx, hby, hml, hret, hlk, hnm, hZ, hown, hw, hS⟩ := W
  subst hp
  intro T locs X hG hF
  obtain ⟨t, o, st, h⟩ := hr T locs X hG hF
  exact ⟨t, o, XS.iand X.here hx rfl (Jvm.hb hby hd) rfl st, h⟩
theorem Walk.ior (W : Walk tab sig l Z a0 n0 own nm bytes maxL ret R Q J) {x y : Int32} (hd : decode bytes pc = .ok (.ior, 1)) (hr : J pc' Ls (.int (x ||| y) :: S) G k sl) (hp : pc + 1 = pc' := by rfl) : J pc Ls (.int y :: .int x :: S) G k sl := by
  obtain ⟨p, e, s, m, args, below, meth, c, rfl, hx, hby, hml, hret, hlk, hnm, hZ, hown, hw, hS⟩ := W
  subst hp
  intro T locs X hG hF
  obtain ⟨t, o, st, h⟩ := hr T locs X hG hF
  exact ⟨t, o, XT.ior X.here hx rfl (Jvm.hb hby hd) rfl st, h⟩
theorem Walk.ixor (W : Walk tab sig l Z a0 n0 own nm bytes maxL ret R Q J) {x y : Int32} (hd : decode bytes pc = .ok (.ixor, 1)) (hr : J pc' Ls (.int (x ^^^ y) :: S) G k sl) (hp : pc + 1 = pc' := by rfl) : J pc Ls (.int y :: .int x :: S) G k sl := by
  obtain ⟨p, e, s, m, args, below, meth, c, rfl, hx, hby, hml, hret, hlk, hnm, hZ, hown, hw, hS⟩ := W
  subst hp
  intro T locs X hG hF
  obtain ⟨t, o, st, h⟩ := hr T locs X hG hF
  exact ⟨t, o, XT.ixor X.here hx rfl (Jvm.hb hby hd) rfl st, h⟩
theorem Walk.ishl (W : Walk tab sig l Z a0 n0 own nm bytes maxL ret R Q J) {x y : Int32} (hd : decode bytes pc = .ok (.ishl, 1)) (hr : J pc' Ls (.int (x <<< (y &&& 31)) :: S) G k sl) (hp : pc + 1 = pc' := by rfl) : J pc Ls (.int y :: .int x :: S) G k sl := by
  obtain ⟨p, e, s, m, args, below, meth, c, rfl, hx, hby, hml, hret, hlk, hnm, hZ, hown, hw, hS⟩ := W
  subst hp
  intro T locs X hG hF
  obtain ⟨t, o, st, h⟩ := hr T locs X hG hF
  exact ⟨t, o, XT.ishl X.here hx rfl (Jvm.hb hby hd) rfl st, h⟩
theorem Walk.ishr (W : Walk tab sig l Z a0 n0 own nm bytes maxL ret R Q J) {x y : Int32} (hd : decode bytes pc = .ok (.ishr, 1)) (hr : J pc' Ls (.int (x >>> (y &&& 31)) :: S) G k sl) (hp : pc + 1 = pc' := by rfl) : J pc Ls (.int y :: .int x :: S) G k sl := by
  obtain ⟨p, e, s, m, args, below, meth, c, rfl, hx, hby, hml, hret, hlk, hnm, hZ, hown, hw, hS⟩ := W
  subst hp
  intro T locs X hG hF
  obtain ⟨t, o, st, h⟩ := hr T locs X hG hF
  exact ⟨t, o, XT.ishr X.here hx rfl (Jvm.hb hby hd) rfl st, h⟩
theorem Walk.iushr (W : Walk tab sig l Z a0 n0 own nm bytes maxL ret R Q J) {x y : Int32} (hd : decode bytes pc = .ok (.iushr, 1)) (hr : J pc' Ls (.int (XT.ushr x y) :: S) G k sl) (hp : pc + 1 = pc' := by rfl) : J pc Ls (.int y :: .int x :: S) G k sl := by
  obtain ⟨p, e, s, m, args, below, meth, c, rfl, hx, hby, hml, hret, hlk, hnm, hZ, hown, hw, hS⟩ := W
  subst hp
  intro T locs X hG hF
  obtain ⟨t, o, st, h⟩ := hr T locs X hG hF
  exact ⟨t, o, XT.iushr X.here hx rfl (Jvm.hb hby hd) rfl st, h⟩
theorem Walk.idiv (W : Walk tab sig l Z a0 n0 own nm bytes maxL ret R Q J) {x y : Int32} (hd : decode bytes pc = .ok (.idiv, 1)) (hy : y ≠ 0) (hr : J pc' Ls (.int (x / y) :: S) G k sl) (hp : pc + 1 = pc' := by rfl) : J pc Ls (.int y :: .int x :: S) G k sl := by
  obtain ⟨p, e, s, m, args, below, meth, c, rfl, hx, hby, hml, hret, hlk, hnm, hZ, hown, hw, hS⟩ := W
  subst hp
  intro T locs X hG hF
  obtain ⟨t, o, st, h⟩ := hr T locs X hG hF
  exact ⟨t, o, XS.idiv X.here hx rfl (Jvm.hb hby hd) rfl hy st, h⟩
theorem Walk.irem (W : Walk tab sig l Z a0 n0 own nm bytes maxL ret R Q J) {x y : Int32} (hd : decode bytes pc = .ok (.irem, 1)) (hy : y ≠ 0) (hr : J pc' Ls (.int (x % y) :: S) G k sl) (hp : pc + 1 = pc' := by rfl) : J pc Ls (.int y :: .int x :: S) G k sl := by
  obtain ⟨p, e, s, m, args, below, meth, c, rfl, hx, hby, hml, hret, hlk, hnm, hZ, hown, hw, hS⟩ := W
  subst hp
  intro T locs X hG hF
  obtain ⟨t, o, st, h⟩ := hr T locs X hG hF
  exact ⟨t, o, iremM X hx rfl (Jvm.hb hby hd) rfl hy st, h⟩
theorem Walk.ineg (W : Walk tab sig l Z a0 n0 own nm bytes maxL ret R Q J) {x : Int32} (hd : decode bytes pc = .ok (.ineg, 1)) (hr : J pc' Ls (.int (-x) :: S) G k sl) (hp : pc + 1 = pc' := by rfl) : J pc Ls (.int x :: S) G k sl := by
  obtain ⟨p, e, s, m, args, below, meth, c, rfl, hx, hby, hml, hret, hlk, hnm, hZ, hown, hw, hS⟩ := W
  subst hp
  intro T locs X hG hF
  obtain ⟨t, o, st, h⟩ := hr T locs X hG hF
  exact ⟨t, o, XS.ineg X.here hx rfl (Jvm.hb hby hd) rfl st, h⟩
theorem Walk.ladd (W : Walk tab sig l Z a0 n0 own nm bytes maxL ret R Q J) {x y : Int64} (hd : decode bytes pc = .ok (.ladd, 1)) (hr : J pc' Ls (.long (x + y) :: S) G k sl) (hp : pc + 1 = pc' := by rfl) : J pc Ls (.long y :: .long x :: S) G k sl := by
  obtain ⟨p, e, s, m, args, below, meth, c, rfl, hx, hby, hml, hret, hlk, hnm, hZ, hown, hw, hS⟩ := W
  subst hp
  intro T locs X hG hF
  obtain ⟨t, o, st, h⟩ := hr T locs X hG hF
  exact ⟨t, o, XT.ladd X.here hx rfl (Jvm.hb hby hd) rfl st, h⟩
theorem Walk.lsub (W : Walk tab sig l Z a0 n0 own nm bytes maxL ret R Q J) {x y : Int64} (hd : decode bytes pc = .ok (.lsub, 1)) (hr : J pc' Ls (.long (x - y) :: S) G k sl) (hp : pc + 1 = pc' := by rfl) : J pc Ls (.long y :: .long x :: S) G k sl := by
  obtain ⟨p, e, s, m, args, below, meth, c, rfl, hx, hby, hml, hret, hlk, hnm, hZ, hown, hw, hS⟩ := W
  subst hp
  intro T locs X hG hF
  obtain ⟨t, o, st, h⟩ := hr T locs X hG hF
  exact ⟨t, o, XT.lsub X.here hx rfl (Jvm.hb hby hd) rfl st, h⟩
theorem Walk.lmul (W : Walk tab sig l Z a0 n0 own nm bytes maxL ret R Q J) {x y : Int64} (hd : decode bytes pc = .ok (.lmul, 1)) (hr : J pc' Ls (.long (x * y) :: S) G k sl) (hp : pc + 1 = pc' := by rfl) : J pc Ls (.long y :: .long x :: S) G k sl := by
  obtain ⟨p, e, s, m, args, below, meth, c, rfl, hx, hby, hml, hret, hlk, hnm, hZ, hown, hw, hS⟩ := W
  subst hp
  intro T locs X hG hF
  obtain ⟨t, o, st, h⟩ := hr T locs X hG hF
  exact ⟨t, o, XT.lmul X.here hx rfl (Jvm.hb hby hd) rfl st, h⟩
theorem Walk.land (W : Walk tab sig l Z a0 n0 own nm bytes maxL ret R Q J) {x y : Int64} (hd : decode bytes pc = .ok (.land, 1)) (hr : J pc' Ls (.long (x &&& y) :: S) G k sl) (hp : pc + 1 = pc' := by rfl) : J pc Ls (.long y :: .long x :: S) G k sl := by
  obtain ⟨p, e, s, m, args, below, meth, c, rfl, hx, hby, hml, hret, hlk, hnm, hZ, hown, hw, hS⟩ := W
  subst hp
  intro T locs X hG hF
  obtain ⟨t, o, st, h⟩ := hr T locs X hG hF
  exact ⟨t, o, XT.land X.here hx rfl (Jvm.hb hby hd) rfl st, h⟩
theorem Walk.lor (W : Walk tab sig l Z a0 n0 own nm bytes maxL ret R Q J) {x y : Int64} (hd : decode bytes pc = .ok (.lor, 1)) (hr : J pc' Ls (.long (x ||| y) :: S) G k sl) (hp : pc + 1 = pc' := by rfl) : J pc Ls (.long y :: .long x :: S) G k sl := by
  obtain ⟨p, e, s, m, args, below, meth, c, rfl, hx, hby, hml, hret, hlk, hnm, hZ, hown, hw, hS⟩ := W
  subst hp
  intro T locs X hG hF
  obtain ⟨t, o, st, h⟩ := hr T locs X hG hF
  exact ⟨t, o, XT.lor X.here hx rfl (Jvm.hb hby hd) rfl st, h⟩
theorem Walk.lxor (W : Walk tab sig l Z a0 n0 own nm bytes maxL ret R Q J) {x y : Int64} (hd : decode bytes pc = .ok (.lxor, 1)) (hr : J pc' Ls (.long (x ^^^ y) :: S) G k sl) (hp : pc + 1 = pc' := by rfl) : J pc Ls (.long y :: .long x :: S) G k sl := by
  obtain ⟨p, e, s, m, args, below, meth, c, rfl, hx, hby, hml, hret, hlk, hnm, hZ, hown, hw, hS⟩ := W
  subst hp
  intro T locs X hG hF
  obtain ⟨t, o, st, h⟩ := hr T locs X hG hF
  exact ⟨t, o, XT.lxor X.here hx rfl (Jvm.hb hby hd) rfl st, h⟩
theorem Walk.lshl (W : Walk tab sig l Z a0 n0 own nm bytes maxL ret R Q J) {x : Int64} {y : Int32} (hd : decode bytes pc = .ok (.lshl, 1)) (hr : J pc' Ls (.long (x <<< (y.toInt64 &&& 63)) :: S) G k sl) (hp : pc + 1 = pc' := by rfl) : J pc Ls (.int y :: .long x :: S) G k sl := by
  obtain ⟨p, e, s, m, args, below, meth, c, rfl, hx, hby, hml, hret, hlk, hnm, hZ, hown, hw, hS⟩ := W
  subst hp
  intro T locs X hG hF
  obtain ⟨t, o, st, h⟩ := hr T locs X hG hF
  exact ⟨t, o, XT.lshl X.here hx rfl (Jvm.hb hby hd) rfl st, h⟩
theorem Walk.lshr (W : Walk tab sig l Z a0 n0 own nm bytes maxL ret R Q J) {x : Int64} {y : Int32} (hd : decode bytes pc = .ok (.lshr, 1)) (hr : J pc' Ls (.long (x >>> (y.toInt64 &&& 63)) :: S) G k sl) (hp : pc + 1 = pc' := by rfl) : J pc Ls (.int y :: .long x :: S) G k sl := by
  obtain ⟨p, e, s, m, args, below, meth, c, rfl, hx, hby, hml, hret, hlk, hnm, hZ, hown, hw, hS⟩ := W
  subst hp
  intro T locs X hG hF
  obtain ⟨t, o, st, h⟩ := hr T locs X hG hF
  exact ⟨t, o, XT.lshr X.here hx rfl (Jvm.hb hby hd) rfl st, h⟩
theorem Walk.lushr (W : Walk tab sig l Z a0 n0 own nm bytes maxL ret R Q J) {x : Int64} {y : Int32} (hd : decode bytes pc = .ok (.lushr, 1)) (hr : J pc' Ls (.long (XT.ushrL x y) :: S) G k sl) (hp : pc + 1 = pc' := by rfl) : J pc Ls (.int y :: .long x :: S) G k sl := by
  obtain ⟨p, e, s, m, args, below, meth, c, rfl, hx, hby, hml, hret, hlk, hnm, hZ, hown, hw, hS⟩ := W
  subst hp
  intro T locs X hG hF
  obtain ⟨t, o, st, h⟩ := hr T locs X hG hF
  exact ⟨t, o, XT.lushr X.here hx rfl (Jvm.hb hby hd) rfl st, h⟩
theorem Walk.ldiv (W : Walk tab sig l Z a0 n0 own nm bytes maxL ret R Q J) {x y : Int64} (hd : decode bytes pc = .ok (.ldiv, 1)) (hy : y ≠ 0) (hr : J pc' Ls (.long (x / y) :: S) G k sl) (hp : pc + 1 = pc' := by rfl) : J pc Ls (.long y :: .long x :: S) G k sl := by
  obtain ⟨p, e, s, m, args, below, meth, c, rfl, hx, hby, hml, hret, hlk, hnm, hZ, hown, hw, hS⟩ := W
  subst hp
  intro T locs X hG hF
  obtain ⟨t, o, st, h⟩ := hr T locs X hG hF
  exact ⟨t, o, XT.ldiv X.here hx rfl (Jvm.hb hby hd) rfl hy st, h⟩
theorem Walk.lrem (W : Walk tab sig l Z a0 n0 own nm bytes maxL ret R Q J) {x y : Int64} (hd : decode bytes pc = .ok (.lrem, 1)) (hy : y ≠ 0) (hr : J pc' Ls (.long (x - (x / y) * y) :: S) G k sl) (hp : pc + 1 = pc' := by rfl) : J pc Ls (.long y :: .long x :: S) G k sl := by
  obtain ⟨p, e, s, m, args, below, meth, c, rfl, hx, hby, hml, hret, hlk, hnm, hZ, hown, hw, hS⟩ := W
  subst hp
  intro T locs X hG hF
  obtain ⟨t, o, st, h⟩ := hr T locs X hG hF
  exact ⟨t, o, XT.lrem X.here hx rfl (Jvm.hb hby hd) rfl hy st, h⟩
theorem Walk.i2l (W : Walk tab sig l Z a0 n0 own nm bytes maxL ret R Q J) {x : Int32} (hd : decode bytes pc = .ok (.i2l, 1)) (hr : J pc' Ls (.long x.toInt64 :: S) G k sl) (hp : pc + 1 = pc' := by rfl) : J pc Ls (.int x :: S) G k sl := by
  obtain ⟨p, e, s, m, args, below, meth, c, rfl, hx, hby, hml, hret, hlk, hnm, hZ, hown, hw, hS⟩ := W
  subst hp
  intro T locs X hG hF
  obtain ⟨t, o, st, h⟩ := hr T locs X hG hF
  exact ⟨t, o, XT.i2l X.here hx rfl (Jvm.hb hby hd) rfl st, h⟩
theorem Walk.l2i (W : Walk tab sig l Z a0 n0 own nm bytes maxL ret R Q J) {x : Int64} (hd : decode bytes pc = .ok (.l2i, 1)) (hr : J pc' Ls (.int x.toInt32 :: S) G k sl) (hp : pc + 1 = pc' := by rfl) : J pc Ls (.long x :: S) G k sl := by
  obtain ⟨p, e, s, m, args, below, meth, c, rfl, hx, hby, hml, hret, hlk, hnm, hZ, hown, hw, hS⟩ := W
  subst hp
  intro T locs X hG hF
  obtain ⟨t, o, st, h⟩ := hr T locs X hG hF
  exact ⟨t, o, XT.l2i X.here hx rfl (Jvm.hb hby hd) rfl st, h⟩
theorem Walk.i2b (W : Walk tab sig l Z a0 n0 own nm bytes maxL ret R Q J) {x : Int32} (hd : decode bytes pc = .ok (.i2b, 1)) (hr : J pc' Ls (.int x.toInt8.toInt32 :: S) G k sl) (hp : pc + 1 = pc' := by rfl) : J pc Ls (.int x :: S) G k sl := by
  obtain ⟨p, e, s, m, args, below, meth, c, rfl, hx, hby, hml, hret, hlk, hnm, hZ, hown, hw, hS⟩ := W
  subst hp
  intro T locs X hG hF
  obtain ⟨t, o, st, h⟩ := hr T locs X hG hF
  exact ⟨t, o, XT.i2b X.here hx rfl (Jvm.hb hby hd) rfl st, h⟩
theorem Walk.lcmp (W : Walk tab sig l Z a0 n0 own nm bytes maxL ret R Q J) {x y : Int64} (hd : decode bytes pc = .ok (.lcmp, 1)) (hr : J pc' Ls (.int (XT.cmpL x y) :: S) G k sl) (hp : pc + 1 = pc' := by rfl) : J pc Ls (.long y :: .long x :: S) G k sl := by
  obtain ⟨p, e, s, m, args, below, meth, c, rfl, hx, hby, hml, hret, hlk, hnm, hZ, hown, hw, hS⟩ := W
  subst hp
  intro T locs X hG hF
  obtain ⟨t, o, st, h⟩ := hr T locs X hG hF
  exact ⟨t, o, XT.lcmp X.here hx rfl (Jvm.hb hby hd) rfl st, h⟩
theorem Walk.dup (W : Walk tab sig l Z a0 n0 own nm bytes maxL ret R Q J) {x : Value} (hd : decode bytes pc = .ok (.dup, 1)) (hc : x.category = 1) (hr : J pc' Ls (x :: x :: S) G k sl) (hp : pc + 1 = pc' := by rfl) : J pc Ls (x :: S) G k sl := by
  obtain ⟨p, e, s, m, args, below, meth, c, rfl, hx, hby, hml, hret, hlk, hnm, hZ, hown, hw, hS⟩ := W
  subst hp
  intro T locs X hG hF
  obtain ⟨t, o, st, h⟩ := hr T locs X hG hF
  exact ⟨t, o, XS.dup X.here hx rfl (Jvm.hb hby hd) rfl hc st, h⟩
theorem Walk.pop (W : Walk tab sig l Z a0 n0 own nm bytes maxL ret R Q J) {x : Value} (hd : decode bytes pc = .ok (.pop, 1)) (hc : x.category = 1) (hr : J pc' Ls (S) G k sl) (hp : pc + 1 = pc' := by rfl) : J pc Ls (x :: S) G k sl := by
  obtain ⟨p, e, s, m, args, below, meth, c, rfl, hx, hby, hml, hret, hlk, hnm, hZ, hown, hw, hS⟩ := W
  subst hp
  intro T locs X hG hF
  obtain ⟨t, o, st, h⟩ := hr T locs X hG hF
  exact ⟨t, o, XT.pop X.here hx rfl (Jvm.hb hby hd) rfl hc st, h⟩
theorem Walk.dupX1 (W : Walk tab sig l Z a0 n0 own nm bytes maxL ret R Q J) {x y : Value} (hd : decode bytes pc = .ok (.dup_x1, 1)) (hc : x.category = 1) (hc' : y.category = 1) (hr : J pc' Ls (x :: y :: x :: S) G k sl) (hp : pc + 1 = pc' := by rfl) : J pc Ls (x :: y :: S) G k sl := by
  obtain ⟨p, e, s, m, args, below, meth, c, rfl, hx, hby, hml, hret, hlk, hnm, hZ, hown, hw, hS⟩ := W
  subst hp
  intro T locs X hG hF
  obtain ⟨t, o, st, h⟩ := hr T locs X hG hF
  exact ⟨t, o, XT.dupX1 X.here hx rfl (Jvm.hb hby hd) rfl hc hc' st, h⟩
theorem Walk.dup2 (W : Walk tab sig l Z a0 n0 own nm bytes maxL ret R Q J) {x y : Value} (hd : decode bytes pc = .ok (.dup2, 1)) (hc : x.category = 1) (hc' : y.category = 1) (hr : J pc' Ls (x :: y :: x :: y :: S) G k sl) (hp : pc + 1 = pc' := by rfl) : J pc Ls (x :: y :: S) G k sl := by
  obtain ⟨p, e, s, m, args, below, meth, c, rfl, hx, hby, hml, hret, hlk, hnm, hZ, hown, hw, hS⟩ := W
  subst hp
  intro T locs X hG hF
  obtain ⟨t, o, st, h⟩ := hr T locs X hG hF
  exact ⟨t, o, XT.dup2 X.here hx rfl (Jvm.hb hby hd) rfl hc hc' st, h⟩
theorem Walk.dup2L (W : Walk tab sig l Z a0 n0 own nm bytes maxL ret R Q J) {x : Int64} (hd : decode bytes pc = .ok (.dup2, 1)) (hr : J pc' Ls (.long x :: .long x :: S) G k sl) (hp : pc + 1 = pc' := by rfl) : J pc Ls (.long x :: S) G k sl := by
  obtain ⟨p, e, s, m, args, below, meth, c, rfl, hx, hby, hml, hret, hlk, hnm, hZ, hown, hw, hS⟩ := W
  subst hp
  intro T locs X hG hF
  obtain ⟨t, o, st, h⟩ := hr T locs X hG hF
  exact ⟨t, o, XT.dup2L X.here hx rfl (Jvm.hb hby hd) rfl st, h⟩
theorem Walk.pop2L (W : Walk tab sig l Z a0 n0 own nm bytes maxL ret R Q J) {x : Int64} (hd : decode bytes pc = .ok (.pop2, 1)) (hr : J pc' Ls (S) G k sl) (hp : pc + 1 = pc' := by rfl) : J pc Ls (.long x :: S) G k sl := by
  obtain ⟨p, e, s, m, args, below, meth, c, rfl, hx, hby, hml, hret, hlk, hnm, hZ, hown, hw, hS⟩ := W
  subst hp
  intro T locs X hG hF
  obtain ⟨t, o, st, h⟩ := hr T locs X hG hF
  exact ⟨t, o, pop2L_step X hx (Jvm.hb hby hd) st, h⟩
theorem Walk.istore (W : Walk tab sig l Z a0 n0 own nm bytes maxL ret R Q J) {i : Nat} {x : Int32} (hd : decode bytes pc = .ok (.istore i, 2)) (ho : ok1 Ls[i]? = true) (hr : J pc' (Ls.set i (.val (.int x))) (S) G k sl) (hp : pc + 2 = pc' := by rfl) : J pc Ls (.int x :: S) G k sl := by
  obtain ⟨p, e, s, m, args, below, meth, c, rfl, hx, hby, hml, hret, hlk, hnm, hZ, hown, hw, hS⟩ := W
  subst hp
  intro T locs X hG hF
  obtain ⟨t, o, st, h⟩ := hr T locs X hG hF
  exact ⟨t, o, XS.istore X.here hx rfl (Jvm.hb hby hd) rfl (store_one ho rfl) st, h⟩
theorem Walk.istoreN (W : Walk tab sig l Z a0 n0 own nm bytes maxL ret R Q J) {i : Fin 4} {i' : Nat} {x : Int32} (hd : decode bytes pc = .ok (.istore_n i, 1)) (ho : ok1 Ls[i']? = true) (hr : J pc' (Ls.set i' (.val (.int x))) (S) G k sl) (hp : pc + 1 = pc' := by rfl) (hi : i.val = i' := by rfl) : J pc Ls (.int x :: S) G k sl := by
  obtain ⟨p, e, s, m, args, below, meth, c, rfl, hx, hby, hml, hret, hlk, hnm, hZ, hown, hw, hS⟩ := W
  subst hp
  intro T locs X hG hF
  obtain ⟨t, o, st, h⟩ := hr T locs X hG hF
  exact ⟨t, o, by subst hi; exact XS.istoreN X.here hx rfl (Jvm.hb hby hd) rfl (store_one ho rfl) st, h⟩
theorem Walk.astore (W : Walk tab sig l Z a0 n0 own nm bytes maxL ret R Q J) {i : Nat} {x : Value} (hd : decode bytes pc = .ok (.astore i, 2)) (hv : x.isRef = true) (ho : ok1 Ls[i]? = true) (hr : J pc' (Ls.set i (.val x)) (S) G k sl) (hp : pc + 2 = pc' := by rfl) : J pc Ls (x :: S) G k sl := by
  obtain ⟨p, e, s, m, args, below, meth, c, rfl, hx, hby, hml, hret, hlk, hnm, hZ, hown, hw, hS⟩ := W
  subst hp
  intro T locs X hG hF
  obtain ⟨t, o, st, h⟩ := hr T locs X hG hF
  exact ⟨t, o, XS.astore X.here hx rfl (Jvm.hb hby hd) rfl hv (store_one ho (XT.cat1 hv)) st, h⟩
theorem Walk.astoreN (W : Walk tab sig l Z a0 n0 own nm bytes maxL ret R Q J) {i : Fin 4} {i' : Nat} {x : Value} (hd : decode bytes pc = .ok (.astore_n i, 1)) (hv : x.isRef = true) (ho : ok1 Ls[i']? = true) (hr : J pc' (Ls.set i' (.val x)) (S) G k sl) (hp : pc + 1 = pc' := by rfl) (hi : i.val = i' := by rfl) : J pc Ls (x :: S) G k sl := by
  obtain ⟨p, e, s, m, args, below, meth, c, rfl, hx, hby, hml, hret, hlk, hnm, hZ, hown, hw, hS⟩ := W
  subst hp
  intro T locs X hG hF
  obtain ⟨t, o, st, h⟩ := hr T locs X hG hF
  exact ⟨t, o, by subst hi; exact XS.astoreN X.here hx rfl (Jvm.hb hby hd) rfl hv (store_one ho (XT.cat1 hv)) st, h⟩
theorem Walk.lstore (W : Walk tab sig l Z a0 n0 own nm bytes maxL ret R Q J) {i : Nat} {x : Int64} (hd : decode bytes pc = .ok (.lstore i, 2)) (ho : ok2 Ls[i]? Ls[i + 1]? = true) (hr : J pc' ((Ls.set i (.val (.long x))).set (i + 1) .second) (S) G k sl) (hp : pc + 2 = pc' := by rfl) : J pc Ls (.long x :: S) G k sl := by
  obtain ⟨p, e, s, m, args, below, meth, c, rfl, hx, hby, hml, hret, hlk, hnm, hZ, hown, hw, hS⟩ := W
  subst hp
  intro T locs X hG hF
  obtain ⟨t, o, st, h⟩ := hr T locs X hG hF
  exact ⟨t, o, XT.lstore X.here hx rfl (Jvm.hb hby hd) rfl (store_two ho) st, h⟩
theorem Walk.lstoreN (W : Walk tab sig l Z a0 n0 own nm bytes maxL ret R Q J) {i : Fin 4} {i' : Nat} {x : Int64} (hd : decode bytes pc = .ok (.lstore_n i, 1)) (ho : ok2 Ls[i']? Ls[i' + 1]? = true) (hr : J pc' ((Ls.set i' (.val (.long x))).set (i' + 1) .second) (S) G k sl) (hp : pc + 1 = pc' := by rfl) (hi : i.val = i' := by rfl) : J pc Ls (.long x :: S) G k sl := by
  obtain ⟨p, e, s, m, args, below, meth, c, rfl, hx, hby, hml, hret, hlk, hnm, hZ, hown, hw, hS⟩ := W
  subst hp
  intro T locs X hG hF
  obtain ⟨t, o, st, h⟩ := hr T locs X hG hF
  exact ⟨t, o, by subst hi; exact XT.lstoreN X.here hx rfl (Jvm.hb hby hd) rfl (store_two ho) st, h⟩
theorem Walk.iinc (W : Walk tab sig l Z a0 n0 own nm bytes maxL ret R Q J) {i : Nat} {cst : Int} (v : Int32) {x : Int32} (hd : decode bytes pc = .ok (.iinc i cst, 3)) (hv : Int32.ofInt cst = v) (hl : Ls[i]? = some (.val (.int x))) (hr : J pc' (Ls.set i (.val (.int (x + v)))) (S) G k sl) (hp : pc + 3 = pc' := by rfl) : J pc Ls (S) G k sl := by
  obtain ⟨p, e, s, m, args, below, meth, c, rfl, hx, hby, hml, hret, hlk, hnm, hZ, hown, hw, hS⟩ := W
  subst hp
  intro T locs X hG hF
  obtain ⟨t, o, st, h⟩ := hr T locs X hG hF
  exact ⟨t, o, XT.iincV X.here hx rfl v (Jvm.hb hby hd) hv (by simpa using hl) (store_one (by rw [hl]; rfl) rfl) st, h⟩
theorem Walk.ldcI (W : Walk tab sig l Z a0 n0 own nm bytes maxL ret R Q J) {i : Nat} {v : Int32} (hd : decode bytes pc = .ok (.ldc i, 2)) (hc : Jvm.Cond.constant own i v ∈ tab) (hr : J pc' Ls (.int v :: S) G k sl) (hp : pc + 2 = pc' := by rfl) : J pc Ls (S) G k sl := by
  obtain ⟨p, e, s, m, args, below, meth, c, rfl, hx, hby, hml, hret, hlk, hnm, hZ, hown, hw, hS⟩ := W
  subst hp
  intro T locs X hG hF
  obtain ⟨t, o, st, h⟩ := hr T locs X hG hF
  exact ⟨t, o, X.ldcInt hx hown (mvT hZ (hw _ hc)) (g := mkF m pc Ls.toArray S) rfl (Jvm.hb hby hd) _ st, h⟩
theorem Walk.ldcwI (W : Walk tab sig l Z a0 n0 own nm bytes maxL ret R Q J) {i : Nat} {v : Int32} (hd : decode bytes pc = .ok (.ldc_w i, 3)) (hc : Jvm.Cond.constant own i v ∈ tab) (hr : J pc' Ls (.int v :: S) G k sl) (hp : pc + 3 = pc' := by rfl) : J pc Ls (S) G k sl := by
  obtain ⟨p, e, s, m, args, below, meth, c, rfl, hx, hby, hml, hret, hlk, hnm, hZ, hown, hw, hS⟩ := W
  subst hp
  intro T locs X hG hF
  obtain ⟨t, o, st, h⟩ := hr T locs X hG hF
  exact ⟨t, o, X.ldcwInt hx hown (mvT hZ (hw _ hc)) (g := mkF m pc Ls.toArray S) rfl (Jvm.hb hby hd) _ st, h⟩
theorem Walk.ldc2J (W : Walk tab sig l Z a0 n0 own nm bytes maxL ret R Q J) {i : Nat} {v : Int64} (hd : decode bytes pc = .ok (.ldc2_w i, 3)) (hc : Jvm.Cond.constantLong own i v ∈ tab) (hr : J pc' Ls (.long v :: S) G k sl) (hp : pc + 3 = pc' := by rfl) : J pc Ls (S) G k sl := by
  obtain ⟨p, e, s, m, args, below, meth, c, rfl, hx, hby, hml, hret, hlk, hnm, hZ, hown, hw, hS⟩ := W
  subst hp
  intro T locs X hG hF
  obtain ⟨t, o, st, h⟩ := hr T locs X hG hF
  exact ⟨t, o, X.ldc2Long hx hown (mvT hZ (hw _ hc)) (g := mkF m pc Ls.toArray S) rfl (Jvm.hb hby hd) _ st, h⟩
theorem Walk.goto (W : Walk tab sig l Z a0 n0 own nm bytes maxL ret R Q J) {o : Int} (hd : decode bytes pc = .ok (.goto o, 3)) (hr : J pc' Ls S G k sl) (ho : 0 ≤ (pc : Int) + o := by decide) (hp : ((pc : Int) + o).toNat = pc' := by decide) : J pc Ls S G k sl := by
  obtain ⟨p, e, s, m, args, below, meth, c, rfl, hx, hby, hml, hret, hlk, hnm, hZ, hown, hw, hS⟩ := W
  intro T locs X hG hF
  obtain ⟨t, o, st, h⟩ := hr T locs X hG hF
  exact ⟨t, o, XS.goto X.here hx rfl rfl (Jvm.hb hby hd) ho hp st, h⟩
theorem Walk.if_eq (W : Walk tab sig l Z a0 n0 own nm bytes maxL ret R Q J) {x : Int32} {o : Int} {pc2 : Nat} (hd : decode bytes pc = .ok (.ifCond .eq o, 3)) (hT : (x = 0) → J pc' Ls S G k sl) (hF' : ¬ (x = 0) → J pc2 Ls S G k sl) (ho : 0 ≤ (pc : Int) + o := by decide) (hp : ((pc : Int) + o).toNat = pc' := by decide) (hp2 : pc + 3 = pc2 := by rfl) : J pc Ls (.int x :: S) G k sl := by
  obtain ⟨p, e, s, m, args, below, meth, c, rfl, hx, hby, hml, hret, hlk, hnm, hZ, hown, hw, hS⟩ := W
  subst hp2
  intro T locs X hG hF
  by_cases q : (x = 0)
  · obtain ⟨t, o, st, h⟩ := hT q T locs X hG hF
    exact ⟨t, o, XS.ifYes X.here hx rfl rfl (Jvm.hb hby hd) rfl (XT.i0_eq_t q) ho hp st, h⟩
  · obtain ⟨t, o, st, h⟩ := hF' q T locs X hG hF
    exact ⟨t, o, XS.ifNo X.here hx rfl (Jvm.hb hby hd) rfl (XT.i0_eq_f q) st, h⟩
theorem Walk.icmp_eq (W : Walk tab sig l Z a0 n0 own nm bytes maxL ret R Q J) {x y : Int32} {o : Int} {pc2 : Nat} (hd : decode bytes pc = .ok (.if_icmp .eq o, 3)) (hT : (x = y) → J pc' Ls S G k sl) (hF' : ¬ (x = y) → J pc2 Ls S G k sl) (ho : 0 ≤ (pc : Int) + o := by decide) (hp : ((pc : Int) + o).toNat = pc' := by decide) (hp2 : pc + 3 = pc2 := by rfl) : J pc Ls (.int y :: .int x :: S) G k sl := by
  obtain ⟨p, e, s, m, args, below, meth, c, rfl, hx, hby, hml, hret, hlk, hnm, hZ, hown, hw, hS⟩ := W
  subst hp2
  intro T locs X hG hF
  by_cases q : (x = y)
  · obtain ⟨t, o, st, h⟩ := hT q T locs X hG hF
    exact ⟨t, o, XS.icmpYes X.here hx rfl rfl (Jvm.hb hby hd) rfl (XT.ii_eq_t q) ho hp st, h⟩
  · obtain ⟨t, o, st, h⟩ := hF' q T locs X hG hF
    exact ⟨t, o, XS.icmpNo X.here hx rfl (Jvm.hb hby hd) rfl (XT.ii_eq_f q) st, h⟩
theorem Walk.ifl_eq (W : Walk tab sig l Z a0 n0 own nm bytes maxL ret R Q J) {x y : Int64} {o : Int} {pc2 : Nat} (hd : decode bytes pc = .ok (.ifCond .eq o, 3)) (hT : (x = y) → J pc' Ls S G k sl) (hF' : ¬ (x = y) → J pc2 Ls S G k sl) (ho : 0 ≤ (pc : Int) + o := by decide) (hp : ((pc : Int) + o).toNat = pc' := by decide) (hp2 : pc + 3 = pc2 := by rfl) : J pc Ls (.int (XT.cmpL x y) :: S) G k sl := by
  obtain ⟨p, e, s, m, args, below, meth, c, rfl, hx, hby, hml, hret, hlk, hnm, hZ, hown, hw, hS⟩ := W
  subst hp2
  intro T locs X hG hF
  by_cases q : (x = y)
  · obtain ⟨t, o, st, h⟩ := hT q T locs X hG hF
    exact ⟨t, o, XS.ifYes X.here hx rfl rfl (Jvm.hb hby hd) rfl (XT.ll_eq_t q) ho hp st, h⟩
  · obtain ⟨t, o, st, h⟩ := hF' q T locs X hG hF
    exact ⟨t, o, XS.ifNo X.here hx rfl (Jvm.hb hby hd) rfl (XT.ll_eq_f q) st, h⟩
theorem Walk.if_ne (W : Walk tab sig l Z a0 n0 own nm bytes maxL ret R Q J) {x : Int32} {o : Int} {pc2 : Nat} (hd : decode bytes pc = .ok (.ifCond .ne o, 3)) (hT : (x = 0) → J pc2 Ls S G k sl) (hF' : ¬ (x = 0) → J pc' Ls S G k sl) (ho : 0 ≤ (pc : Int) + o := by decide) (hp : ((pc : Int) + o).toNat = pc' := by decide) (hp2 : pc + 3 = pc2 := by rfl) : J pc Ls (.int x :: S) G k sl := by
  obtain ⟨p, e, s, m, args, below, meth, c, rfl, hx, hby, hml, hret, hlk, hnm, hZ, hown, hw, hS⟩ := W
  subst hp2
  intro T locs X hG hF
  by_cases q : (x = 0)
  · obtain ⟨t, o, st, h⟩ := hT q T locs X hG hF
    exact ⟨t, o, XS.ifNo X.here hx rfl (Jvm.hb hby hd) rfl (XT.i0_ne_f q) st, h⟩
  · obtain ⟨t, o, st, h⟩ := hF' q T locs X hG hF
    exact ⟨t, o, XS.ifYes X.here hx rfl rfl (Jvm.hb hby hd) rfl (XT.i0_ne_t q) ho hp st, h⟩
theorem Walk.icmp_ne (W : Walk tab sig l Z a0 n0 own nm bytes maxL ret R Q J) {x y : Int32} {o : Int} {pc2 : Nat} (hd : decode bytes pc = .ok (.if_icmp .ne o, 3)) (hT : (x = y) → J pc2 Ls S G k sl) (hF' : ¬ (x = y) → J pc' Ls S G k sl) (ho : 0 ≤ (pc : Int) + o := by decide) (hp : ((pc : Int) + o).toNat = pc' := by decide) (hp2 : pc + 3 = pc2 := by rfl) : J pc Ls (.int y :: .int x :: S) G k sl := by
  obtain ⟨p, e, s, m, args, below, meth, c, rfl, hx, hby, hml, hret, hlk, hnm, hZ, hown, hw, hS⟩ := W
  subst hp2
  intro T locs X hG hF
  by_cases q : (x = y)
  · obtain ⟨t, o, st, h⟩ := hT q T locs X hG hF
    exact ⟨t, o, XS.icmpNo X.here hx rfl (Jvm.hb hby hd) rfl (XT.ii_ne_f q) st, h⟩
  · obtain ⟨t, o, st, h⟩ := hF' q T locs X hG hF
    exact ⟨t, o, XS.icmpYes X.here hx rfl rfl (Jvm.hb hby hd) rfl (XT.ii_ne_t q) ho hp st, h⟩
theorem Walk.ifl_ne (W : Walk tab sig l Z a0 n0 own nm bytes maxL ret R Q J) {x y : Int64} {o : Int} {pc2 : Nat} (hd : decode bytes pc = .ok (.ifCond .ne o, 3)) (hT : (x = y) → J pc2 Ls S G k sl) (hF' : ¬ (x = y) → J pc' Ls S G k sl) (ho : 0 ≤ (pc : Int) + o := by decide) (hp : ((pc : Int) + o).toNat = pc' := by decide) (hp2 : pc + 3 = pc2 := by rfl) : J pc Ls (.int (XT.cmpL x y) :: S) G k sl := by
  obtain ⟨p, e, s, m, args, below, meth, c, rfl, hx, hby, hml, hret, hlk, hnm, hZ, hown, hw, hS⟩ := W
  subst hp2
  intro T locs X hG hF
  by_cases q : (x = y)
  · obtain ⟨t, o, st, h⟩ := hT q T locs X hG hF
    exact ⟨t, o, XS.ifNo X.here hx rfl (Jvm.hb hby hd) rfl (XT.ll_ne_f q) st, h⟩
  · obtain ⟨t, o, st, h⟩ := hF' q T locs X hG hF
    exact ⟨t, o, XS.ifYes X.here hx rfl rfl (Jvm.hb hby hd) rfl (XT.ll_ne_t q) ho hp st, h⟩
theorem Walk.if_lt (W : Walk tab sig l Z a0 n0 own nm bytes maxL ret R Q J) {x : Int32} {o : Int} {pc2 : Nat} (hd : decode bytes pc = .ok (.ifCond .lt o, 3)) (hT : (x < 0) → J pc' Ls S G k sl) (hF' : ¬ (x < 0) → J pc2 Ls S G k sl) (ho : 0 ≤ (pc : Int) + o := by decide) (hp : ((pc : Int) + o).toNat = pc' := by decide) (hp2 : pc + 3 = pc2 := by rfl) : J pc Ls (.int x :: S) G k sl := by
  obtain ⟨p, e, s, m, args, below, meth, c, rfl, hx, hby, hml, hret, hlk, hnm, hZ, hown, hw, hS⟩ := W
  subst hp2
  intro T locs X hG hF
  by_cases q : (x < 0)
  · obtain ⟨t, o, st, h⟩ := hT q T locs X hG hF
    exact ⟨t, o, XS.ifYes X.here hx rfl rfl (Jvm.hb hby hd) rfl (XT.i0_lt_t q) ho hp st, h⟩
  · obtain ⟨t, o, st, h⟩ := hF' q T locs X hG hF
    exact ⟨t, o, XS.ifNo X.here hx rfl (Jvm.hb hby hd) rfl (XT.i0_lt_f q) st, h⟩
theorem Walk.icmp_lt (W : Walk tab sig l Z a0 n0 own nm bytes maxL ret R Q J) {x y : Int32} {o : Int} {pc2 : Nat} (hd : decode bytes pc = .ok (.if_icmp .lt o, 3)) (hT : (x < y) → J pc' Ls S G k sl) (hF' : ¬ (x < y) → J pc2 Ls S G k sl) (ho : 0 ≤ (pc : Int) + o := by decide) (hp : ((pc : Int) + o).toNat = pc' := by decide) (hp2 : pc + 3 = pc2 := by rfl) : J pc Ls (.int y :: .int x :: S) G k sl := by
  obtain ⟨p, e, s, m, args, below, meth, c, rfl, hx, hby, hml, hret, hlk, hnm, hZ, hown, hw, hS⟩ := W
  subst hp2
  intro T locs X hG hF
  by_cases q : (x < y)
  · obtain ⟨t, o, st, h⟩ := hT q T locs X hG hF
    exact ⟨t, o, XS.icmpYes X.here hx rfl rfl (Jvm.hb hby hd) rfl (XT.ii_lt_t q) ho hp st, h⟩
  · obtain ⟨t, o, st, h⟩ := hF' q T locs X hG hF
    exact ⟨t, o, XS.icmpNo X.here hx rfl (Jvm.hb hby hd) rfl (XT.ii_lt_f q) st, h⟩
theorem Walk.ifl_lt (W : Walk tab sig l Z a0 n0 own nm bytes maxL ret R Q J) {x y : Int64} {o : Int} {pc2 : Nat} (hd : decode bytes pc = .ok (.ifCond .lt o, 3)) (hT : (x < y) → J pc' Ls S G k sl) (hF' : ¬ (x < y) → J pc2 Ls S G k sl) (ho : 0 ≤ (pc : Int) + o := by decide) (hp : ((pc : Int) + o).toNat = pc' := by decide) (hp2 : pc + 3 = pc2 := by rfl) : J pc Ls (.int (XT.cmpL x y) :: S) G k sl := by
  obtain ⟨p, e, s, m, args, below, meth, c, rfl, hx, hby, hml, hret, hlk, hnm, hZ, hown, hw, hS⟩ := W
  subst hp2
  intro T locs X hG hF
  by_cases q : (x < y)
  · obtain ⟨t, o, st, h⟩ := hT q T locs X hG hF
    exact ⟨t, o, XS.ifYes X.here hx rfl rfl (Jvm.hb hby hd) rfl (XT.ll_lt_t q) ho hp st, h⟩
  · obtain ⟨t, o, st, h⟩ := hF' q T locs X hG hF
    exact ⟨t, o, XS.ifNo X.here hx rfl (Jvm.hb hby hd) rfl (XT.ll_lt_f q) st, h⟩
theorem Walk.if_ge (W : Walk tab sig l Z a0 n0 own nm bytes maxL ret R Q J) {x : Int32} {o : Int} {pc2 : Nat} (hd : decode bytes pc = .ok (.ifCond .ge o, 3)) (hT : (x < 0) → J pc2 Ls S G k sl) (hF' : ¬ (x < 0) → J pc' Ls S G k sl) (ho : 0 ≤ (pc : Int) + o := by decide) (hp : ((pc : Int) + o).toNat = pc' := by decide) (hp2 : pc + 3 = pc2 := by rfl) : J pc Ls (.int x :: S) G k sl := by
  obtain ⟨p, e, s, m, args, below, meth, c, rfl, hx, hby, hml, hret, hlk, hnm, hZ, hown, hw, hS⟩ := W
  subst hp2
  intro T locs X hG hF
  by_cases q : (x < 0)
  · obtain ⟨t, o, st, h⟩ := hT q T locs X hG hF
    exact ⟨t, o, XS.ifNo X.here hx rfl (Jvm.hb hby hd) rfl (XT.i0_ge_f q) st, h⟩
  · obtain ⟨t, o, st, h⟩ := hF' q T locs X hG hF
    exact ⟨t, o, XS.ifYes X.here hx rfl rfl (Jvm.hb hby hd) rfl (XT.i0_ge_t q) ho hp st, h⟩
theorem Walk.icmp_ge (W : Walk tab sig l Z a0 n0 own nm bytes maxL ret R Q J) {x y : Int32} {o : Int} {pc2 : Nat} (hd : decode bytes pc = .ok (.if_icmp .ge o, 3)) (hT : (x < y) → J pc2 Ls S G k sl) (hF' : ¬ (x < y) → J pc' Ls S G k sl) (ho : 0 ≤ (pc : Int) + o := by decide) (hp : ((pc : Int) + o).toNat = pc' := by decide) (hp2 : pc + 3 = pc2 := by rfl) : J pc Ls (.int y :: .int x :: S) G k sl := by
  obtain ⟨p, e, s, m, args, below, meth, c, rfl, hx, hby, hml, hret, hlk, hnm, hZ, hown, hw, hS⟩ := W
  subst hp2
  intro T locs X hG hF
  by_cases q : (x < y)
  · obtain ⟨t, o, st, h⟩ := hT q T locs X hG hF
    exact ⟨t, o, XS.icmpNo X.here hx rfl (Jvm.hb hby hd) rfl (XT.ii_ge_f q) st, h⟩
  · obtain ⟨t, o, st, h⟩ := hF' q T locs X hG hF
    exact ⟨t, o, XS.icmpYes X.here hx rfl rfl (Jvm.hb hby hd) rfl (XT.ii_ge_t q) ho hp st, h⟩
theorem Walk.ifl_ge (W : Walk tab sig l Z a0 n0 own nm bytes maxL ret R Q J) {x y : Int64} {o : Int} {pc2 : Nat} (hd : decode bytes pc = .ok (.ifCond .ge o, 3)) (hT : (x < y) → J pc2 Ls S G k sl) (hF' : ¬ (x < y) → J pc' Ls S G k sl) (ho : 0 ≤ (pc : Int) + o := by decide) (hp : ((pc : Int) + o).toNat = pc' := by decide) (hp2 : pc + 3 = pc2 := by rfl) : J pc Ls (.int (XT.cmpL x y) :: S) G k sl := by
  obtain ⟨p, e, s, m, args, below, meth, c, rfl, hx, hby, hml, hret, hlk, hnm, hZ, hown, hw, hS⟩ := W
  subst hp2
  intro T locs X hG hF
  by_cases q : (x < y)
  · obtain ⟨t, o, st, h⟩ := hT q T locs X hG hF
    exact ⟨t, o, XS.ifNo X.here hx rfl (Jvm.hb hby hd) rfl (XT.ll_ge_f q) st, h⟩
  · obtain ⟨t, o, st, h⟩ := hF' q T locs X hG hF
    exact ⟨t, o, XS.ifYes X.here hx rfl rfl (Jvm.hb hby hd) rfl (XT.ll_ge_t q) ho hp st, h⟩
theorem Walk.if_gt (W : Walk tab sig l Z a0 n0 own nm bytes maxL ret R Q J) {x : Int32} {o : Int} {pc2 : Nat} (hd : decode bytes pc = .ok (.ifCond .gt o, 3)) (hT : (0 < x) → J pc' Ls S G k sl) (hF' : ¬ (0 < x) → J pc2 Ls S G k sl) (ho : 0 ≤ (pc : Int) + o := by decide) (hp : ((pc : Int) + o).toNat = pc' := by decide) (hp2 : pc + 3 = pc2 := by rfl) : J pc Ls (.int x :: S) G k sl := by
  obtain ⟨p, e, s, m, args, below, meth, c, rfl, hx, hby, hml, hret, hlk, hnm, hZ, hown, hw, hS⟩ := W
  subst hp2
  intro T locs X hG hF
  by_cases q : (0 < x)
  · obtain ⟨t, o, st, h⟩ := hT q T locs X hG hF
    exact ⟨t, o, XS.ifYes X.here hx rfl rfl (Jvm.hb hby hd) rfl (XT.i0_gt_t q) ho hp st, h⟩
  · obtain ⟨t, o, st, h⟩ := hF' q T locs X hG hF
    exact ⟨t, o, XS.ifNo X.here hx rfl (Jvm.hb hby hd) rfl (XT.i0_gt_f q) st, h⟩
theorem Walk.icmp_gt (W : Walk tab sig l Z a0 n0 own nm bytes maxL ret R Q J) {x y : Int32} {o : Int} {pc2 : Nat} (hd : decode bytes pc = .ok (.if_icmp .gt o, 3)) (hT : (y < x) → J pc' Ls S G k sl) (hF' : ¬ (y < x) → J pc2 Ls S G k sl) (ho : 0 ≤ (pc : Int) + o := by decide) (hp : ((pc : Int) + o).toNat = pc' := by decide) (hp2 : pc + 3 = pc2 := by rfl) : J pc Ls (.int y :: .int x :: S) G k sl := by
  obtain ⟨p, e, s, m, args, below, meth, c, rfl, hx, hby, hml, hret, hlk, hnm, hZ, hown, hw, hS⟩ := W
  subst hp2
  intro T locs X hG hF
  by_cases q : (y < x)
  · obtain ⟨t, o, st, h⟩ := hT q T locs X hG hF
    exact ⟨t, o, XS.icmpYes X.here hx rfl rfl (Jvm.hb hby hd) rfl (XT.ii_gt_t q) ho hp st, h⟩
  · obtain ⟨t, o, st, h⟩ := hF' q T locs X hG hF
    exact ⟨t, o, XS.icmpNo X.here hx rfl (Jvm.hb hby hd) rfl (XT.ii_gt_f q) st, h⟩
theorem Walk.ifl_gt (W : Walk tab sig l Z a0 n0 own nm bytes maxL ret R Q J) {x y : Int64} {o : Int} {pc2 : Nat} (hd : decode bytes pc = .ok (.ifCond .gt o, 3)) (hT : (y < x) → J pc' Ls S G k sl) (hF' : ¬ (y < x) → J pc2 Ls S G k sl) (ho : 0 ≤ (pc : Int) + o := by decide) (hp : ((pc : Int) + o).toNat = pc' := by decide) (hp2 : pc + 3 = pc2 := by rfl) : J pc Ls (.int (XT.cmpL x y) :: S) G k sl := by
  obtain ⟨p, e, s, m, args, below, meth, c, rfl, hx, hby, hml, hret, hlk, hnm, hZ, hown, hw, hS⟩ := W
  subst hp2
  intro T locs X hG hF
  by_cases q : (y < x)
  · obtain ⟨t, o, st, h⟩ := hT q T locs X hG hF
    exact ⟨t, o, XS.ifYes X.here hx rfl rfl (Jvm.hb hby hd) rfl (XT.ll_gt_t q) ho hp st, h⟩
  · obtain ⟨t, o, st, h⟩ := hF' q T locs X hG hF
    exact ⟨t, o, XS.ifNo X.here hx rfl (Jvm.hb hby hd) rfl (XT.ll_gt_f q) st, h⟩
theorem Walk.if_le (W : Walk tab sig l Z a0 n0 own nm bytes maxL ret R Q J) {x : Int32} {o : Int} {pc2 : Nat} (hd : decode bytes pc = .ok (.ifCond .le o, 3)) (hT : (0 < x) → J pc2 Ls S G k sl) (hF' : ¬ (0 < x) → J pc' Ls S G k sl) (ho : 0 ≤ (pc : Int) + o := by decide) (hp : ((pc : Int) + o).toNat = pc' := by decide) (hp2 : pc + 3 = pc2 := by rfl) : J pc Ls (.int x :: S) G k sl := by
  obtain ⟨p, e, s, m, args, below, meth, c, rfl, hx, hby, hml, hret, hlk, hnm, hZ, hown, hw, hS⟩ := W
  subst hp2
  intro T locs X hG hF
  by_cases q : (0 < x)
  · obtain ⟨t, o, st, h⟩ := hT q T locs X hG hF
    exact ⟨t, o, XS.ifNo X.here hx rfl (Jvm.hb hby hd) rfl (XT.i0_le_f q) st, h⟩
  · obtain ⟨t, o, st, h⟩ := hF' q T locs X hG hF
    exact ⟨t, o, XS.ifYes X.here hx rfl rfl (Jvm.hb hby hd) rfl (XT.i0_le_t q) ho hp st, h⟩
theorem Walk.icmp_le (W : Walk tab sig l Z a0 n0 own nm bytes maxL ret R Q J) {x y : Int32} {o : Int} {pc2 : Nat} (hd : decode bytes pc = .ok (.if_icmp .le o, 3)) (hT : (y < x) → J pc2 Ls S G k sl) (hF' : ¬ (y < x) → J pc' Ls S G k sl) (ho : 0 ≤ (pc : Int) + o := by decide) (hp : ((pc : Int) + o).toNat = pc' := by decide) (hp2 : pc + 3 = pc2 := by rfl) : J pc Ls (.int y :: .int x :: S) G k sl := by
  obtain ⟨p, e, s, m, args, below, meth, c, rfl, hx, hby, hml, hret, hlk, hnm, hZ, hown, hw, hS⟩ := W
  subst hp2
  intro T locs X hG hF
  by_cases q : (y < x)
  · obtain ⟨t, o, st, h⟩ := hT q T locs X hG hF
    exact ⟨t, o, XS.icmpNo X.here hx rfl (Jvm.hb hby hd) rfl (XT.ii_le_f q) st, h⟩
  · obtain ⟨t, o, st, h⟩ := hF' q T locs X hG hF
    exact ⟨t, o, XS.icmpYes X.here hx rfl rfl (Jvm.hb hby hd) rfl (XT.ii_le_t q) ho hp st, h⟩
theorem Walk.ifl_le (W : Walk tab sig l Z a0 n0 own nm bytes maxL ret R Q J) {x y : Int64} {o : Int} {pc2 : Nat} (hd : decode bytes pc = .ok (.ifCond .le o, 3)) (hT : (y < x) → J pc2 Ls S G k sl) (hF' : ¬ (y < x) → J pc' Ls S G k sl) (ho : 0 ≤ (pc : Int) + o := by decide) (hp : ((pc : Int) + o).toNat = pc' := by decide) (hp2 : pc + 3 = pc2 := by rfl) : J pc Ls (.int (XT.cmpL x y) :: S) G k sl := by
  obtain ⟨p, e, s, m, args, below, meth, c, rfl, hx, hby, hml, hret, hlk, hnm, hZ, hown, hw, hS⟩ := W
  subst hp2
  intro T locs X hG hF
  by_cases q : (y < x)
  · obtain ⟨t, o, st, h⟩ := hT q T locs X hG hF
    exact ⟨t, o, XS.ifNo X.here hx rfl (Jvm.hb hby hd) rfl (XT.ll_le_f q) st, h⟩
  · obtain ⟨t, o, st, h⟩ := hF' q T locs X hG hF
    exact ⟨t, o, XS.ifYes X.here hx rfl rfl (Jvm.hb hby hd) rfl (XT.ll_le_t q) ho hp st, h⟩
theorem Walk.ifnull_t (W : Walk tab sig l Z a0 n0 own nm bytes maxL ret R Q J)  {o : Int} (hd : decode bytes pc = .ok (.ifnull o, 3)) (hr : J pc' Ls S G k sl) (ho : 0 ≤ (pc : Int) + o := by decide) (hp : ((pc : Int) + o).toNat = pc' := by decide) : J pc Ls (.null :: S) G k sl := by
  obtain ⟨p, e, s, m, args, below, meth, c, rfl, hx, hby, hml, hret, hlk, hnm, hZ, hown, hw, hS⟩ := W
  intro T locs X hG hF
  obtain ⟨t, o, st, h⟩ := hr T locs X hG hF
  exact ⟨t, o, XS.ifnullYes X.here hx rfl rfl (Jvm.hb hby hd) rfl ho hp st, h⟩
theorem Walk.ifnull_f (W : Walk tab sig l Z a0 n0 own nm bytes maxL ret R Q J) {a : Addr} {o : Int} (hd : decode bytes pc = .ok (.ifnull o, 3)) (hr : J pc' Ls S G k sl) (hp : pc + 3 = pc' := by rfl) : J pc Ls (.ref a :: S) G k sl := by
  obtain ⟨p, e, s, m, args, below, meth, c, rfl, hx, hby, hml, hret, hlk, hnm, hZ, hown, hw, hS⟩ := W
  subst hp
  intro T locs X hG hF
  obtain ⟨t, o, st, h⟩ := hr T locs X hG hF
  exact ⟨t, o, XS.ifnullNo X.here hx rfl (Jvm.hb hby hd) rfl st, h⟩
theorem Walk.ifnonnull_t (W : Walk tab sig l Z a0 n0 own nm bytes maxL ret R Q J) {a : Addr} {o : Int} (hd : decode bytes pc = .ok (.ifnonnull o, 3)) (hr : J pc' Ls S G k sl) (ho : 0 ≤ (pc : Int) + o := by decide) (hp : ((pc : Int) + o).toNat = pc' := by decide) : J pc Ls (.ref a :: S) G k sl := by
  obtain ⟨p, e, s, m, args, below, meth, c, rfl, hx, hby, hml, hret, hlk, hnm, hZ, hown, hw, hS⟩ := W
  intro T locs X hG hF
  obtain ⟨t, o, st, h⟩ := hr T locs X hG hF
  exact ⟨t, o, XT.ifnonnullYes X.here hx rfl rfl (Jvm.hb hby hd) rfl ho hp st, h⟩
theorem Walk.ifnonnull_f (W : Walk tab sig l Z a0 n0 own nm bytes maxL ret R Q J)  {o : Int} (hd : decode bytes pc = .ok (.ifnonnull o, 3)) (hr : J pc' Ls S G k sl) (hp : pc + 3 = pc' := by rfl) : J pc Ls (.null :: S) G k sl := by
  obtain ⟨p, e, s, m, args, below, meth, c, rfl, hx, hby, hml, hret, hlk, hnm, hZ, hown, hw, hS⟩ := W
  subst hp
  intro T locs X hG hF
  obtain ⟨t, o, st, h⟩ := hr T locs X hG hF
  exact ⟨t, o, XT.ifnonnullNo X.here hx rfl (Jvm.hb hby hd) rfl st, h⟩
theorem Walk.acmp_eq_t (W : Walk tab sig l Z a0 n0 own nm bytes maxL ret R Q J) {x y : Value} {o : Int} (hd : decode bytes pc = .ok (.if_acmp .eq o, 3)) (h1 : x.isRef = true) (h2 : y.isRef = true) (q : x = y) (hr : J pc' Ls S G k sl) (ho : 0 ≤ (pc : Int) + o := by decide) (hp : ((pc : Int) + o).toNat = pc' := by decide) : J pc Ls (y :: x :: S) G k sl := by
  obtain ⟨p, e, s, m, args, below, meth, c, rfl, hx, hby, hml, hret, hlk, hnm, hZ, hown, hw, hS⟩ := W
  intro T locs X hG hF
  obtain ⟨t, o, st, h⟩ := hr T locs X hG hF
  exact ⟨t, o, XT.acmpYes X.here hx rfl rfl (Jvm.hb hby hd) rfl h1 h2 (XT.aa_eq_t q) ho hp st, h⟩
theorem Walk.acmp_eq_f (W : Walk tab sig l Z a0 n0 own nm bytes maxL ret R Q J) {x y : Value} {o : Int} (hd : decode bytes pc = .ok (.if_acmp .eq o, 3)) (h1 : x.isRef = true) (h2 : y.isRef = true) (q : ¬ x = y) (hr : J pc' Ls S G k sl) (hp : pc + 3 = pc' := by rfl) : J pc Ls (y :: x :: S) G k sl := by
  obtain ⟨p, e, s, m, args, below, meth, c, rfl, hx, hby, hml, hret, hlk, hnm, hZ, hown, hw, hS⟩ := W
  subst hp
  intro T locs X hG hF
  obtain ⟨t, o, st, h⟩ := hr T locs X hG hF
  exact ⟨t, o, XT.acmpNo X.here hx rfl (Jvm.hb hby hd) rfl h1 h2 (XT.aa_eq_f q) st, h⟩
theorem Walk.acmp_ne_t (W : Walk tab sig l Z a0 n0 own nm bytes maxL ret R Q J) {x y : Value} {o : Int} (hd : decode bytes pc = .ok (.if_acmp .ne o, 3)) (h1 : x.isRef = true) (h2 : y.isRef = true) (q : ¬ x = y) (hr : J pc' Ls S G k sl) (ho : 0 ≤ (pc : Int) + o := by decide) (hp : ((pc : Int) + o).toNat = pc' := by decide) : J pc Ls (y :: x :: S) G k sl := by
  obtain ⟨p, e, s, m, args, below, meth, c, rfl, hx, hby, hml, hret, hlk, hnm, hZ, hown, hw, hS⟩ := W
  intro T locs X hG hF
  obtain ⟨t, o, st, h⟩ := hr T locs X hG hF
  exact ⟨t, o, XT.acmpYes X.here hx rfl rfl (Jvm.hb hby hd) rfl h1 h2 (XT.aa_ne_t q) ho hp st, h⟩
theorem Walk.acmp_ne_f (W : Walk tab sig l Z a0 n0 own nm bytes maxL ret R Q J) {x y : Value} {o : Int} (hd : decode bytes pc = .ok (.if_acmp .ne o, 3)) (h1 : x.isRef = true) (h2 : y.isRef = true) (q : x = y) (hr : J pc' Ls S G k sl) (hp : pc + 3 = pc' := by rfl) : J pc Ls (y :: x :: S) G k sl := by
  obtain ⟨p, e, s, m, args, below, meth, c, rfl, hx, hby, hml, hret, hlk, hnm, hZ, hown, hw, hS⟩ := W
  subst hp
  intro T locs X hG hF
  obtain ⟨t, o, st, h⟩ := hr T locs X hG hF
  exact ⟨t, o, XT.acmpNo X.here hx rfl (Jvm.hb hby hd) rfl h1 h2 (XT.aa_ne_f q) st, h⟩
theorem Walk.dia_if_eq (W : Walk tab sig l Z a0 n0 own nm bytes maxL ret R Q J) {x : Int32} {o i1 o2 i3 : Int} {pc2 pe : Nat} (va vb : Int32) (hd : decode bytes pc = .ok (.ifCond .eq o, 3)) (h1 : decode bytes pc2 = .ok (.iconst i1, 1)) (h2 : decode bytes (pc2 + 1) = .ok (.goto o2, 3)) (h3 : decode bytes pc' = .ok (.iconst i3, 1)) (e1 : Int32.ofInt i1 = va) (e3 : Int32.ofInt i3 = vb)
    (hr : J pe Ls (.int (if (x = 0) then vb else va) :: S) G k sl) (ho : 0 ≤ (pc : Int) + o := by decide) (hp : ((pc : Int) + o).toNat = pc' := by decide) (hp2 : pc + 3 = pc2 := by rfl) (ho2 : 0 ≤ ((pc2 + 1 : Nat) : Int) + o2 := by decide) (hp3 : (((pc2 + 1 : Nat) : Int) + o2).toNat = pe := by decide) (hp4 : pc' + 1 = pe := by rfl) : J pc Ls (.int x :: S) G k sl := by
  refine W.if_eq (pc' := pc') (pc2 := pc2) hd (fun q => ?_) (fun q => ?_) ho hp hp2
  · rw [if_pos q] at hr
    exact W.iconst vb h3 e3 hr hp4
  · rw [if_neg q] at hr
    exact W.iconst va h1 e1 (W.goto h2 hr ho2 hp3) rfl
theorem Walk.dia_icmp_eq (W : Walk tab sig l Z a0 n0 own nm bytes maxL ret R Q J) {x y : Int32} {o i1 o2 i3 : Int} {pc2 pe : Nat} (va vb : Int32) (hd : decode bytes pc = .ok (.if_icmp .eq o, 3)) (h1 : decode bytes pc2 = .ok (.iconst i1, 1)) (h2 : decode bytes (pc2 + 1) = .ok (.goto o2, 3)) (h3 : decode bytes pc' = .ok (.iconst i3, 1)) (e1 : Int32.ofInt i1 = va) (e3 : Int32.ofInt i3 = vb)
    (hr : J pe Ls (.int (if (x = y) then vb else va) :: S) G k sl) (ho : 0 ≤ (pc : Int) + o := by decide) (hp : ((pc : Int) + o).toNat = pc' := by decide) (hp2 : pc + 3 = pc2 := by rfl) (ho2 : 0 ≤ ((pc2 + 1 : Nat) : Int) + o2 := by decide) (hp3 : (((pc2 + 1 : Nat) : Int) + o2).toNat = pe := by decide) (hp4 : pc' + 1 = pe := by rfl) : J pc Ls (.int y :: .int x :: S) G k sl := by
  refine W.icmp_eq (pc' := pc') (pc2 := pc2) hd (fun q => ?_) (fun q => ?_) ho hp hp2
  · rw [if_pos q] at hr
    exact W.iconst vb h3 e3 hr hp4
  · rw [if_neg q] at hr
    exact W.iconst va h1 e1 (W.goto h2 hr ho2 hp3) rfl
theorem Walk.dia_ifl_eq (W : Walk tab sig l Z a0 n0 own nm bytes maxL ret R Q J) {x y : Int64} {o i1 o2 i3 : Int} {pc2 pe : Nat} (va vb : Int32) (hd : decode bytes pc = .ok (.ifCond .eq o, 3)) (h1 : decode bytes pc2 = .ok (.iconst i1, 1)) (h2 : decode bytes (pc2 + 1) = .ok (.goto o2, 3)) (h3 : decode bytes pc' = .ok (.iconst i3, 1)) (e1 : Int32.ofInt i1 = va) (e3 : Int32.ofInt i3 = vb)
    (hr : J pe Ls (.int (if (x = y) then vb else va) :: S) G k sl) (ho : 0 ≤ (pc : Int) + o := by decide) (hp : ((pc : Int) + o).toNat = pc' := by decide) (hp2 : pc + 3 = pc2 := by rfl) (ho2 : 0 ≤ ((pc2 + 1 : Nat) : Int) + o2 := by decide) (hp3 : (((pc2 + 1 : Nat) : Int) + o2).toNat = pe := by decide) (hp4 : pc' + 1 = pe := by rfl) : J pc Ls (.int (XT.cmpL x y) :: S) G k sl := by
  refine W.ifl_eq (pc' := pc') (pc2 := pc2) hd (fun q => ?_) (fun q => ?_) ho hp hp2
  · rw [if_pos q] at hr
    exact W.iconst vb h3 e3 hr hp4
  · rw [if_neg q] at hr
    exact W.iconst va h1 e1 (W.goto h2 hr ho2 hp3) rfl
theorem Walk.dia_if_ne (W : Walk tab sig l Z a0 n0 own nm bytes maxL ret R Q J) {x : Int32} {o i1 o2 i3 : Int} {pc2 pe : Nat} (va vb : Int32) (hd : decode bytes pc = .ok (.ifCond .ne o, 3)) (h1 : decode bytes pc2 = .ok (.iconst i1, 1)) (h2 : decode bytes (pc2 + 1) = .ok (.goto o2, 3)) (h3 : decode bytes pc' = .ok (.iconst i3, 1)) (e1 : Int32.ofInt i1 = va) (e3 : Int32.ofInt i3 = vb)
    (hr : J pe Ls (.int (if (x = 0) then va else vb) :: S) G k sl) (ho : 0 ≤ (pc : Int) + o := by decide) (hp : ((pc : Int) + o).toNat = pc' := by decide) (hp2 : pc + 3 = pc2 := by rfl) (ho2 : 0 ≤ ((pc2 + 1 : Nat) : Int) + o2 := by decide) (hp3 : (((pc2 + 1 : Nat) : Int) + o2).toNat = pe := by decide) (hp4 : pc' + 1 = pe := by rfl) : J pc Ls (.int x :: S) G k sl := by
  refine W.if_ne (pc' := pc') (pc2 := pc2) hd (fun q => ?_) (fun q => ?_) ho hp hp2
  · rw [if_pos q] at hr
    exact W.iconst va h1 e1 (W.goto h2 hr ho2 hp3) rfl
  · rw [if_neg q] at hr
    exact W.iconst vb h3 e3 hr hp4
theorem Walk.dia_icmp_ne (W : Walk tab sig l Z a0 n0 own nm bytes maxL ret R Q J) {x y : Int32} {o i1 o2 i3 : Int} {pc2 pe : Nat} (va vb : Int32) (hd : decode bytes pc = .ok (.if_icmp .ne o, 3)) (h1 : decode bytes pc2 = .ok (.iconst i1, 1)) (h2 : decode bytes (pc2 + 1) = .ok (.goto o2, 3)) (h3 : decode bytes pc' = .ok (.iconst i3, 1)) (e1 : Int32.ofInt i1 = va) (e3 : Int32.ofInt i3 = vb)
    (hr : J pe Ls (.int (if (x = y) then va else vb) :: S) G k sl) (ho : 0 ≤ (pc : Int) + o := by decide) (hp : ((pc : Int) + o).toNat = pc' := by decide) (hp2 : pc + 3 = pc2 := by rfl) (ho2 : 0 ≤ ((pc2 + 1 : Nat) : Int) + o2 := by decide) (hp3 : (((pc2 + 1 : Nat) : Int) + o2).toNat = pe := by decide) (hp4 : pc' + 1 = pe := by rfl) : J pc Ls (.int y :: .int x :: S) G k sl := by
  refine W.icmp_ne (pc' := pc') (pc2 := pc2) hd (fun q => ?_) (fun q => ?_) ho hp hp2
  · rw [if_pos q] at hr
    exact W.iconst va h1 e1 (W.goto h2 hr ho2 hp3) rfl
  · rw [if_neg q] at hr
    exact W.iconst vb h3 e3 hr hp4
theorem Walk.dia_ifl_ne (W : Walk tab sig l Z a0 n0 own nm bytes maxL ret R Q J) {x y : Int64} {o i1 o2 i3 : Int} {pc2 pe : Nat} (va vb : Int32) (hd : decode bytes pc = .ok (.ifCond .ne o, 3)) (h1 : decode bytes pc2 = .ok (.iconst i1, 1)) (h2 : decode bytes (pc2 + 1) = .ok (.goto o2, 3)) (h3 : decode bytes pc' = .ok (.iconst i3, 1)) (e1 : Int32.ofInt i1 = va) (e3 : Int32.ofInt i3 = vb)
    (hr : J pe Ls (.int (if (x = y) then va else vb) :: S) G k sl) (ho : 0 ≤ (pc : Int) + o := by decide) (hp : ((pc : Int) + o).toNat = pc' := by decide) (hp2 : pc + 3 = pc2 := by rfl) (ho2 : 0 ≤ ((pc2 + 1 : Nat) : Int) + o2 := by decide) (hp3 : (((pc2 + 1 : Nat) : Int) + o2).toNat = pe := by decide) (hp4 : pc' + 1 = pe := by rfl) : J pc Ls (.int (XT.cmpL x y) :: S) G k sl := by
  refine W.ifl_ne (pc' := pc') (pc2 := pc2) hd (fun q => ?_) (fun q => ?_) ho hp hp2
  · rw [if_pos q] at hr
    exact W.iconst va h1 e1 (W.goto h2 hr ho2 hp3) rfl
  · rw [if_neg q] at hr
    exact W.iconst vb h3 e3 hr hp4
theorem Walk.dia_if_lt (W : Walk tab sig l Z a0 n0 own nm bytes maxL ret R Q J) {x : Int32} {o i1 o2 i3 : Int} {pc2 pe : Nat} (va vb : Int32) (hd : decode bytes pc = .ok (.ifCond .lt o, 3)) (h1 : decode bytes pc2 = .ok (.iconst i1, 1)) (h2 : decode bytes (pc2 + 1) = .ok (.goto o2, 3)) (h3 : decode bytes pc' = .ok (.iconst i3, 1)) (e1 : Int32.ofInt i1 = va) (e3 : Int32.ofInt i3 = vb)
    (hr : J pe Ls (.int (if (x < 0) then vb else va) :: S) G k sl) (ho : 0 ≤ (pc : Int) + o := by decide) (hp : ((pc : Int) + o).toNat = pc' := by decide) (hp2 : pc + 3 = pc2 := by rfl) (ho2 : 0 ≤ ((pc2 + 1 : Nat) : Int) + o2 := by decide) (hp3 : (((pc2 + 1 : Nat) : Int) + o2).toNat = pe := by decide) (hp4 : pc' + 1 = pe := by rfl) : J pc Ls (.int x :: S) G k sl := by
  refine W.if_lt (pc' := pc') (pc2 := pc2) hd (fun q => ?_) (fun q => ?_) ho hp hp2
  · rw [if_pos q] at hr
    exact W.iconst vb h3 e3 hr hp4
  · rw [if_neg q] at hr
    exact W.iconst va h1 e1 (W.goto h2 hr ho2 hp3) rfl
theorem Walk.dia_icmp_lt (W : Walk tab sig l Z a0 n0 own nm bytes maxL ret R Q J) {x y : Int32} {o i1 o2 i3 : Int} {pc2 pe : Nat} (va vb : Int32) (hd : decode bytes pc = .ok (.if_icmp .lt o, 3)) (h1 : decode bytes pc2 = .ok (.iconst i1, 1)) (h2 : decode bytes (pc2 + 1) = .ok (.goto o2, 3)) (h3 : decode bytes pc' = .ok (.iconst i3, 1)) (e1 : Int32.ofInt i1 = va) (e3 : Int32.ofInt i3 = vb)
    (hr : J pe Ls (.int (if (x < y) then vb else va) :: S) G k sl) (ho : 0 ≤ (pc : Int) + o := by decide) (hp : ((pc : Int) + o).toNat = pc' := by decide) (hp2 : pc + 3 = pc2 := by rfl) (ho2 : 0 ≤ ((pc2 + 1 : Nat) : Int) + o2 := by decide) (hp3 : (((pc2 + 1 : Nat) : Int) + o2).toNat = pe := by decide) (hp4 : pc' + 1 = pe := by rfl) : J pc Ls (.int y :: .int x :: S) G k sl := by
  refine W.icmp_lt (pc' := pc') (pc2 := pc2) hd (fun q => ?_) (fun q => ?_) ho hp hp2
  · rw [if_pos q] at hr
    exact W.iconst vb h3 e3 hr hp4
  · rw [if_neg q] at hr
    exact W.iconst va h1 e1 (W.goto h2 hr ho2 hp3) rfl
theorem Walk.dia_ifl_lt (W : Walk tab sig l Z a0 n0 own nm bytes maxL ret R Q J) {x y : Int64} {o i1 o2 i3 : Int} {pc2 pe : Nat} (va vb : Int32) (hd : decode bytes pc = .ok (.ifCond .lt o, 3)) (h1 : decode bytes pc2 = .ok (.iconst i1, 1)) (h2 : decode bytes (pc2 + 1) = .ok (.goto o2, 3)) (h3 : decode bytes pc' = .ok (.iconst i3, 1)) (e1 : Int32.ofInt i1 = va) (e3 : Int32.ofInt i3 = vb)
    (hr : J pe Ls (.int (if (x < y) then vb else va) :: S) G k sl) (ho : 0 ≤ (pc : Int) + o := by decide) (hp : ((pc : Int) + o).toNat = pc' := by decide) (hp2 : pc + 3 = pc2 := by rfl) (ho2 : 0 ≤ ((pc2 + 1 : Nat) : Int) + o2 := by decide) (hp3 : (((pc2 + 1 : Nat) : Int) + o2).toNat = pe := by decide) (hp4 : pc' + 1 = pe := by rfl) : J pc Ls (.int (XT.cmpL x y) :: S) G k sl := by
  refine W.ifl_lt (pc' := pc') (pc2 := pc2) hd (fun q => ?_) (fun q => ?_) ho hp hp2
  · rw [if_pos q] at hr
    exact W.iconst vb h3 e3 hr hp4
  · rw [if_neg q] at hr
    exact W.iconst va h1 e1 (W.goto h2 hr ho2 hp3) rfl
theorem Walk.dia_if_ge (W : Walk tab sig l Z a0 n0 own nm bytes maxL ret R Q J) {x : Int32} {o i1 o2 i3 : Int} {pc2 pe : Nat} (va vb : Int32) (hd : decode bytes pc = .ok (.ifCond .ge o, 3)) (h1 : decode bytes pc2 = .ok (.iconst i1, 1)) (h2 : decode bytes (pc2 + 1) = .ok (.goto o2, 3)) (h3 : decode bytes pc' = .ok (.iconst i3, 1)) (e1 : Int32.ofInt i1 = va) (e3 : Int32.ofInt i3 = vb)
    (hr : J pe Ls (.int (if (x < 0) then va else vb) :: S) G k sl) (ho : 0 ≤ (pc : Int) + o := by decide) (hp : ((pc : Int) + o).toNat = pc' := by decide) (hp2 : pc + 3 = pc2 := by rfl) (ho2 : 0 ≤ ((pc2 + 1 : Nat) : Int) + o2 := by decide) (hp3 : (((pc2 + 1 : Nat) : Int) + o2).toNat = pe := by decide) (hp4 : pc' + 1 = pe := by rfl) : J pc Ls (.int x :: S) G k sl := by
  refine W.if_ge (pc' := pc') (pc2 := pc2) hd (fun q => ?_) (fun q => ?_) ho hp hp2
  · rw [if_pos q] at hr
    exact W.iconst va h1 e1 (W.goto h2 hr ho2 hp3) rfl
  · rw [if_neg q] at hr
    exact W.iconst vb h3 e3 hr hp4
theorem Walk.dia_icmp_ge (W : Walk tab sig l Z a0 n0 own nm bytes maxL ret R Q J) {x y : Int32} {o i1 o2 i3 : Int} {pc2 pe : Nat} (va vb : Int32) (hd : decode bytes pc = .ok (.if_icmp .ge o, 3)) (h1 : decode bytes pc2 = .ok (.iconst i1, 1)) (h2 : decode bytes (pc2 + 1) = .ok (.goto o2, 3)) (h3 : decode bytes pc' = .ok (.iconst i3, 1)) (e1 : Int32.ofInt i1 = va) (e3 : Int32.ofInt i3 = vb)
    (hr : J pe Ls (.int (if (x < y) then va else vb) :: S) G k sl) (ho : 0 ≤ (pc : Int) + o := by decide) (hp : ((pc : Int) + o).toNat = pc' := by decide) (hp2 : pc + 3 = pc2 := by rfl) (ho2 : 0 ≤ ((pc2 + 1 : Nat) : Int) + o2 := by decide) (hp3 : (((pc2 + 1 : Nat) : Int) + o2).toNat = pe := by decide) (hp4 : pc' + 1 = pe := by rfl) : J pc Ls (.int y :: .int x :: S) G k sl := by
  refine W.icmp_ge (pc' := pc') (pc2 := pc2) hd (fun q => ?_) (fun q => ?_) ho hp hp2
  · rw [if_pos q] at hr
    exact W.iconst va h1 e1 (W.goto h2 hr ho2 hp3) rfl
  · rw [if_neg q] at hr
    exact W.iconst vb h3 e3 hr hp4
theorem Walk.dia_ifl_ge (W : Walk tab sig l Z a0 n0 own nm bytes maxL ret R Q J) {x y : Int64} {o i1 o2 i3 : Int} {pc2 pe : Nat} (va vb : Int32) (hd : decode bytes pc = .ok (.ifCond .ge o, 3)) (h1 : decode bytes pc2 = .ok (.iconst i1, 1)) (h2 : decode bytes (pc2 + 1) = .ok (.goto o2, 3)) (h3 : decode bytes pc' = .ok (.iconst i3, 1)) (e1 : Int32.ofInt i1 = va) (e3 : Int32.ofInt i3 = vb)
    (hr : J pe Ls (.int (if (x < y) then va else vb) :: S) G k sl) (ho : 0 ≤ (pc : Int) + o := by decide) (hp : ((pc : Int) + o).toNat = pc' := by decide) (hp2 : pc + 3 = pc2 := by rfl) (ho2 : 0 ≤ ((pc2 + 1 : Nat) : Int) + o2 := by decide) (hp3 : (((pc2 + 1 : Nat) : Int) + o2).toNat = pe := by decide) (hp4 : pc' + 1 = pe := by rfl) : J pc Ls (.int (XT.cmpL x y) :: S) G k sl := by
  refine W.ifl_ge (pc' := pc') (pc2 := pc2) hd (fun q => ?_) (fun q => ?_) ho hp hp2
  · rw [if_pos q] at hr
    exact W.iconst va h1 e1 (W.goto h2 hr ho2 hp3) rfl
  · rw [if_neg q] at hr
    exact W.iconst vb h3 e3 hr hp4
theorem Walk.dia_if_gt (W : Walk tab sig l Z a0 n0 own nm bytes maxL ret R Q J) {x : Int32} {o i1 o2 i3 : Int} {pc2 pe : Nat} (va vb : Int32) (hd : decode bytes pc = .ok (.ifCond .gt o, 3)) (h1 : decode bytes pc2 = .ok (.iconst i1, 1)) (h2 : decode bytes (pc2 + 1) = .ok (.goto o2, 3)) (h3 : decode bytes pc' = .ok (.iconst i3, 1)) (e1 : Int32.ofInt i1 = va) (e3 : Int32.ofInt i3 = vb)
    (hr : J pe Ls (.int (if (0 < x) then vb else va) :: S) G k sl) (ho : 0 ≤ (pc : Int) + o := by decide) (hp : ((pc : Int) + o).toNat = pc' := by decide) (hp2 : pc + 3 = pc2 := by rfl) (ho2 : 0 ≤ ((pc2 + 1 : Nat) : Int) + o2 := by decide) (hp3 : (((pc2 + 1 : Nat) : Int) + o2).toNat = pe := by decide) (hp4 : pc' + 1 = pe := by rfl) : J pc Ls (.int x :: S) G k sl := by
  refine W.if_gt (pc' := pc') (pc2 := pc2) hd (fun q => ?_) (fun q => ?_) ho hp hp2
  · rw [if_pos q] at hr
    exact W.iconst vb h3 e3 hr hp4
  · rw [if_neg q] at hr
    exact W.iconst va h1 e1 (W.goto h2 hr ho2 hp3) rfl
theorem Walk.dia_icmp_gt (W : Walk tab sig l Z a0 n0 own nm bytes maxL ret R Q J) {x y : Int32} {o i1 o2 i3 : Int} {pc2 pe : Nat} (va vb : Int32) (hd : decode bytes pc = .ok (.if_icmp .gt o, 3)) (h1 : decode bytes pc2 = .ok (.iconst i1, 1)) (h2 : decode bytes (pc2 + 1) = .ok (.goto o2, 3)) (h3 : decode bytes pc' = .ok (.iconst i3, 1)) (e1 : Int32.ofInt i1 = va) (e3 : Int32.ofInt i3 = vb)
    (hr : J pe Ls (.int (if (y < x) then vb else va) :: S) G k sl) (ho : 0 ≤ (pc : Int) + o := by decide) (hp : ((pc : Int) + o).toNat = pc' := by decide) (hp2 : pc + 3 = pc2 := by rfl) (ho2 : 0 ≤ ((pc2 + 1 : Nat) : Int) + o2 := by decide) (hp3 : (((pc2 + 1 : Nat) : Int) + o2).toNat = pe := by decide) (hp4 : pc' + 1 = pe := by rfl) : J pc Ls (.int y :: .int x :: S) G k sl := by
  refine W.icmp_gt (pc' := pc') (pc2 := pc2) hd (fun q => ?_) (fun q => ?_) ho hp hp2
  · rw [if_pos q] at hr
    exact W.iconst vb h3 e3 hr hp4
  · rw [if_neg q] at hr
    exact W.iconst va h1 e1 (W.goto h2 hr ho2 hp3) rfl
theorem Walk.dia_ifl_gt (W : Walk tab sig l Z a0 n0 own nm bytes maxL ret R Q J) {x y : Int64} {o i1 o2 i3 : Int} {pc2 pe : Nat} (va vb : Int32) (hd : decode bytes pc = .ok (.ifCond .gt o, 3)) (h1 : decode bytes pc2 = .ok (.iconst i1, 1)) (h2 : decode bytes (pc2 + 1) = .ok (.goto o2, 3)) (h3 : decode bytes pc' = .ok (.iconst i3, 1)) (e1 : Int32.ofInt i1 = va) (e3 : Int32.ofInt i3 = vb)
    (hr : J pe Ls (.int (if (y < x) then vb else va) :: S) G k sl) (ho : 0 ≤ (pc : Int) + o := by decide) (hp : ((pc : Int) + o).toNat = pc' := by decide) (hp2 : pc + 3 = pc2 := by rfl) (ho2 : 0 ≤ ((pc2 + 1 : Nat) : Int) + o2 := by decide) (hp3 : (((pc2 + 1 : Nat) : Int) + o2).toNat = pe := by decide) (hp4 : pc' + 1 = pe := by rfl) : J pc Ls (.int (XT.cmpL x y) :: S) G k sl := by
  refine W.ifl_gt (pc' := pc') (pc2 := pc2) hd (fun q => ?_) (fun q => ?_) ho hp hp2
  · rw [if_pos q] at hr
    exact W.iconst vb h3 e3 hr hp4
  · rw [if_neg q] at hr
    exact W.iconst va h1 e1 (W.goto h2 hr ho2 hp3) rfl
theorem Walk.dia_if_le (W : Walk tab sig l Z a0 n0 own nm bytes maxL ret R Q J) {x : Int32} {o i1 o2 i3 : Int} {pc2 pe : Nat} (va vb : Int32) (hd : decode bytes pc = .ok (.ifCond .le o, 3)) (h1 : decode bytes pc2 = .ok (.iconst i1, 1)) (h2 : decode bytes (pc2 + 1) = .ok (.goto o2, 3)) (h3 : decode bytes pc' = .ok (.iconst i3, 1)) (e1 : Int32.ofInt i1 = va) (e3 : Int32.ofInt i3 = vb)
    (hr : J pe Ls (.int (if (0 < x) then va else vb) :: S) G k sl) (ho : 0 ≤ (pc : Int) + o := by decide) (hp : ((pc : Int) + o).toNat = pc' := by decide) (hp2 : pc + 3 = pc2 := by rfl) (ho2 : 0 ≤ ((pc2 + 1 : Nat) : Int) + o2 := by decide) (hp3 : (((pc2 + 1 : Nat) : Int) + o2).toNat = pe := by decide) (hp4 : pc' + 1 = pe := by rfl) : J pc Ls (.int x :: S) G k sl := by
  refine W.if_le (pc' := pc') (pc2 := pc2) hd (fun q => ?_) (fun q => ?_) ho hp hp2
  · rw [if_pos q] at hr
    exact W.iconst va h1 e1 (W.goto h2 hr ho2 hp3) rfl
  · rw [if_neg q] at hr
    exact W.iconst vb h3 e3 hr hp4
theorem Walk.dia_icmp_le (W : Walk tab sig l Z a0 n0 own nm bytes maxL ret R Q J) {x y : Int32} {o i1 o2 i3 : Int} {pc2 pe : Nat} (va vb : Int32) (hd : decode bytes pc = .ok (.if_icmp .le o, 3)) (h1 : decode bytes pc2 = .ok (.iconst i1, 1)) (h2 : decode bytes (pc2 + 1) = .ok (.goto o2, 3)) (h3 : decode bytes pc' = .ok (.iconst i3, 1)) (e1 : Int32.ofInt i1 = va) (e3 : Int32.ofInt i3 = vb)
    (hr : J pe Ls (.int (if (y < x) then va else vb) :: S) G k sl) (ho : 0 ≤ (pc : Int) + o := by decide) (hp : ((pc : Int) + o).toNat = pc' := by decide) (hp2 : pc + 3 = pc2 := by rfl) (ho2 : 0 ≤ ((pc2 + 1 : Nat) : Int) + o2 := by decide) (hp3 : (((pc2 + 1 : Nat) : Int) + o2).toNat = pe := by decide) (hp4 : pc' + 1 = pe := by rfl) : J pc Ls (.int y :: .int x :: S) G k sl := by
  refine W.icmp_le (pc' := pc') (pc2 := pc2) hd (fun q => ?_) (fun q => ?_) ho hp hp2
  · rw [if_pos q] at hr
    exact W.iconst va h1 e1 (W.goto h2 hr ho2 hp3) rfl
  · rw [if_neg q] at hr
    exact W.iconst vb h3 e3 hr hp4
theorem Walk.dia_ifl_le (W : Walk tab sig l Z a0 n0 own nm bytes maxL ret R Q J) {x y : Int64} {o i1 o2 i3 : Int} {pc2 pe : Nat} (va vb : Int32) (hd : decode bytes pc = .ok (.ifCond .le o, 3)) (h1 : decode bytes pc2 = .ok (.iconst i1, 1)) (h2 : decode bytes (pc2 + 1) = .ok (.goto o2, 3)) (h3 : decode bytes pc' = .ok (.iconst i3, 1)) (e1 : Int32.ofInt i1 = va) (e3 : Int32.ofInt i3 = vb)
    (hr : J pe Ls (.int (if (y < x) then va else vb) :: S) G k sl) (ho : 0 ≤ (pc : Int) + o := by decide) (hp : ((pc : Int) + o).toNat = pc' := by decide) (hp2 : pc + 3 = pc2 := by rfl) (ho2 : 0 ≤ ((pc2 + 1 : Nat) : Int) + o2 := by decide) (hp3 : (((pc2 + 1 : Nat) : Int) + o2).toNat = pe := by decide) (hp4 : pc' + 1 = pe := by rfl) : J pc Ls (.int (XT.cmpL x y) :: S) G k sl := by
  refine W.ifl_le (pc' := pc') (pc2 := pc2) hd (fun q => ?_) (fun q => ?_) ho hp hp2
  · rw [if_pos q] at hr
    exact W.iconst va h1 e1 (W.goto h2 hr ho2 hp3) rfl
  · rw [if_neg q] at hr
    exact W.iconst vb h3 e3 hr hp4
end Steps
/-! ## the ghost heap over a step that writes or makes -/
section Heap
variable {tab : List Jvm.Cond} {sig : Sig} {l : Launch} {Z : State} {a0 : Array Value} {n0 : Nat} {own nm : String} {bytes : ByteArray} {maxL : Nat} {ret : Option FieldType} {R : Room} {Q : Post} {J : JT} {pc pc' : Nat} {Ls : List Slot} {S : List Value} {G : Ghost} {k sl : Nat} {h h' : Heap} {a b : Addr} {o : Obj} {v w : Value} {j : Nat}
theorem ObjAt.other {sl' : Nat} (W : Wr h h' a sl' v) (hne : b ≠ a) (F : ObjAt sig Z h b o) : ObjAt sig Z h' b o := by
  obtain ⟨t, vs⟩ := o
  cases t with
  | inl ci =>
    obtain ⟨C, n, fs, h1, h2, h3, h4⟩ := F
    exact ⟨C, n, fs, h1, h2.wr W, h3, fun i O nm d ty v hf hv => Fld.other W (h4 i O nm d ty v hf hv) (Or.inl hne)⟩
  | inr ty =>
    obtain ⟨c, h1, h2⟩ := F
    exact ⟨c, h1.other W hne, h2⟩
theorem ObjAt.ext (E : Ext h h') (F : ObjAt sig Z h b o) : ObjAt sig Z h' b o := by
  obtain ⟨t, vs⟩ := o
  cases t with
  | inl ci =>
    obtain ⟨C, n, fs, h1, h2, h3, h4⟩ := F
    exact ⟨C, n, fs, h1, h2.ext E, h3, fun i O nm d ty v hf hv => (h4 i O nm d ty v hf hv).ext E⟩
  | inr ty =>
    obtain ⟨c, h1, h2⟩ := F
    exact ⟨c, h1.ext E, h2⟩
theorem Rep.write {sl' : Nat} {o o' : Obj} (hG : Rep sig Z n0 h G) (W : Wr h h' (n0 + j) sl' v) (hO : G[j]? = some o) (hN : ObjAt sig Z h' (n0 + j) o') : Rep sig Z n0 h' (G.set j o') := by
  obtain ⟨rfl, h2, h3, h4⟩ := hG
  have hj : j < G.length := (List.getElem?_eq_some_iff.mp hO).1
  refine ⟨rfl, ⟨by rw [W.size]; exact h2.1, fun a c hc => ?_⟩, by rw [W.size, h3]; simp, fun k o2 hk => ?_⟩
  · obtain ⟨c', e1, -, -, -, e5, -⟩ := wr_at W (h2.2 a c hc)
    have : a < Z.heap.size := (Array.getElem?_eq_some_iff.mp hc).1
    rw [e1, e5 (Nat.ne_of_lt (Nat.lt_of_lt_of_le this (Nat.le_add_right _ _)))]
  · by_cases q : k = j
    · subst q
      rw [List.getElem?_set_self hj] at hk
      cases hk
      exact hN
    · rw [List.getElem?_set_ne (fun z => q z.symm)] at hk
      exact ObjAt.other W (fun z => q (Nat.add_left_cancel z)) (h4 k o2 hk)
theorem Rep.push {o' : Obj} (hG : Rep sig Z n0 h G) (E : Ext h h') (hs : h'.size = h.size + 1) (hN : ObjAt sig Z h' h.size o') : Rep sig Z n0 h' (G ++ [o']) := by
  obtain ⟨rfl, h2, h3, h4⟩ := hG
  refine ⟨rfl, ⟨Nat.le_trans h2.1 E.1, fun a c hc => E.2 a c (h2.2 a c hc)⟩, by rw [hs, h3]; simp; omega, fun k o2 hk => ?_⟩
  rcases Nat.lt_or_ge k G.length with q | q
  · rw [List.getElem?_append_left q] at hk
    exact (h4 k o2 hk).ext E
  · rw [List.getElem?_append_right q] at hk
    cases hq : k - G.length with
    | zero =>
      rw [hq] at hk
      cases hk
      have e : k = G.length := by omega
      have : Z.heap.size + k = h.size := by rw [h3, e]
      rw [this]
      exact hN
    | succ n => rw [hq] at hk; cases hk
theorem Rep.start (Z : State) : Rep sig Z Z.heap.size Z.heap [] := ⟨rfl, ⟨Nat.le_refl _, fun _ _ h => h⟩, rfl, fun k o h => by cases h⟩
theorem fr_snoc {locs : List Loc} {sl' : Nat} (N : Fr n0 locs) : Fr n0 (locs ++ [⟨n0 + j, sl'⟩]) := N.app fun y hy => by cases List.mem_singleton.mp hy; exact Nat.le_add_right _ _
theorem Walk.getfield (W : Walk tab sig l Z a0 n0 own nm bytes maxL ret R Q J) {idx ci n : Nat} (i : Nat) {C O f d host : String} {ty : FieldType} {fs : List Fd} {vs : List Value} (hd : decode bytes pc = .ok (.getfield idx, 3))
    (hlink : Jvm.Cond.fieldLink own idx O f d ∈ tab ∨ Jvm.Cond.fieldLinkNest own idx O f d host ∈ tab) (hO : G[j]? = some (.inl ci, vs)) (hc : sig[ci]? = some (C, n, fs)) (hf : fs[i]? = some (O, f, d, ty)) (hv : vs[i]? = some v)
    (hr : J pc' Ls (v :: S) G k sl) (hp : pc + 3 = pc' := by rfl) : J pc Ls (.ref (n0 + j) :: S) G k sl := by
  obtain ⟨p, e, s, m, args, below, meth, c, rfl, hx, hby, hml, hret, hlk, hnm, hZ, hown, hw, hS⟩ := W
  subst hp
  intro T locs X hG hF
  obtain ⟨C', n', fs', e1, E, hlen, F⟩ := hG.2.2.2 j _ hO
  cases hc.symm.trans e1
  obtain ⟨T', X', e', st⟩ := getF X hx hZ hown (host := host) (hlink.imp (hw _) (hw _)) Via.refl rfl (F i O f d ty v hf hv) (g := mkF m pc Ls.toArray (.ref (n0 + j) :: S)) rfl rfl (Jvm.hb hby hd)
  obtain ⟨t, o, st2, h⟩ := hr T' locs X' (by rw [e']; exact hG) hF
  exact ⟨t, o, st _ st2, h⟩
/-- 'getfield' by an entry that the run has resolved already -/
theorem Walk.getfieldR (W : Walk tab sig l Z a0 n0 own nm bytes maxL ret R Q J) {idx ci n : Nat} (i : Nat) {C O f d : String} {ty : FieldType} {fs : List Fd} {vs : List Value} (hd : decode bytes pc = .ok (.getfield idx, 3))
    (hlink : Jvm.Cond.fieldRef own idx O f d ∈ tab) (hO : G[j]? = some (.inl ci, vs)) (hc : sig[ci]? = some (C, n, fs)) (hf : fs[i]? = some (O, f, d, ty)) (hv : vs[i]? = some v)
    (hr : J pc' Ls (v :: S) G k sl) (hp : pc + 3 = pc' := by rfl) : J pc Ls (.ref (n0 + j) :: S) G k sl := by
  obtain ⟨p, e, s, m, args, below, meth, c, rfl, hx, hby, hml, hret, hlk, hnm, hZ, hown, hw, hS⟩ := W
  subst hp
  intro T locs X hG hF
  obtain ⟨C', n', fs', e1, E, hlen, F⟩ := hG.2.2.2 j _ hO
  cases hc.symm.trans e1
  obtain ⟨cell, cf, k1, i1, fl, h1, h2, h3, h4, -, -, h7⟩ := F i O f d ty v hf hv
  have hT : Z.Warmed39 T.vm := wtrans hZ X.warmed
  have hcur : (Z.setVm T.vm).vm.findClass own = some m.cls := by
    show T.vm.findClass own = some m.cls
    rw [X.warmed.alike.findClass]; exact hown
  obtain ⟨c2, k2, i2, f2, hf2, hready⟩ := Cond.fieldRef_spec hcur (Cond.fieldRef_warmed39 hT (hw _ hlink))
  obtain ⟨k3, g1, -⟩ := State.fieldFound?_setVm (s := Z) hT.alike h2
  have g2 : (Z.setVm T.vm).fieldFound? O f d = some (cf, k3, i1, fl) := g1
  cases hf2.symm.trans g2
  obtain ⟨t, o, st2, h⟩ := hr T locs X hG hF
  refine ⟨t, o, ?_, h⟩
  have hd' := Jvm.hb hby hd
  jvm_step X.here [hx, hd', getfield.wp_ready (e := e) (s := T) (f := mkF m pc Ls.toArray (.ref (n0 + j) :: S)) X.here.top hready h3 rfl h1 h4 h7]
  exact st2
theorem Walk.putfield (W : Walk tab sig l Z a0 n0 own nm bytes maxL ret R Q J) {idx ci n : Nat} (i : Nat) {C O f d host : String} {ty : FieldType} {fs : List Fd} {vs : List Value} (hd : decode bytes pc = .ok (.putfield idx, 3))
    (hlink : Jvm.Cond.fieldLink own idx O f d ∈ tab ∨ Jvm.Cond.fieldLinkNest own idx O f d host ∈ tab) (hO : G[j]? = some (.inl ci, vs)) (hc : sig[ci]? = some (C, n, fs)) (hf : fs[i]? = some (O, f, d, ty))
    (L : Jvm.Cond.lays C O f d ∈ tab ∨ (Jvm.Cond.laysFinal C O f d ∈ tab ∧ own = O ∧ nm = "<init>")) (hn : narrow ty v = v) (hfit : fits ty v = true)
    (hr : J pc' Ls S (G.set j (.inl ci, vs.set i v)) k sl) (hp : pc + 3 = pc' := by rfl) : J pc Ls (v :: .ref (n0 + j) :: S) G k sl := by
  obtain ⟨p, e, s, m, args, below, meth, c, rfl, hx, hby, hml, hret, hlk, rfl, hZ, hown, hw, hS⟩ := W
  subst hp
  intro T locs X hG hF
  obtain ⟨C', n', fs', e1, E, hlen, F⟩ := hG.2.2.2 j _ hO
  cases hc.symm.trans e1
  obtain ⟨s1, s2, s3⟩ := hS ci C n fs hc
  have hi : i < fs.length := (List.getElem?_eq_some_iff.mp hf).1
  have hv : vs[i]? = some vs[i] := List.getElem?_eq_getElem (by omega)
  have F1 := F i O f d ty _ hf hv
  obtain ⟨T', h', X', e', W', st⟩ := putF X hx hZ hown (host := host) (hlink.imp (hw _) (hw _)) Via.refl rfl F1 E (L.imp (hw _) fun q => ⟨hw _ q.1, q.2⟩) (hw _ s1) (s2 _ (List.mem_of_getElem? hf)).2 hn hfit (g := mkF m pc Ls.toArray (v :: .ref (n0 + j) :: S)) rfl rfl (Jvm.hb hby hd)
  have hN : ObjAt sig Z h' (n0 + j) (.inl ci, vs.set i v) := by
    refine ⟨C, n, fs, hc, E.wr W', by simp [hlen], fun i' O' f' d' ty' v' hf' hv' => ?_⟩
    by_cases q : i' = i
    · subst q
      cases hf.symm.trans hf'
      rw [List.getElem?_set_self (by omega)] at hv'
      cases hv'
      exact F1.same W'
    · rw [List.getElem?_set_ne (fun z => q z.symm)] at hv'
      refine Fld.other W' (F i' O' f' d' ty' v' hf' hv') (Or.inr ?_)
      have m1 := s2 _ (List.mem_of_getElem? hf)
      have m2 := s2 _ (List.mem_of_getElem? hf')
      refine slot_ne (a0 := a0) (C := C) (m2.1.imp (hw _) (hw _)) (m1.1.imp (hw _) (hw _)) (fun z => q ?_) m2.2 m1.2
      have g1 : (fs.map (·.2.1))[i]? = some f := by simp [hf]
      have g2 : (fs.map (·.2.1))[i']? = some f' := by simp [hf']
      have hi' : i' < fs.length := (List.getElem?_eq_some_iff.mp hf').1
      exact (List.getElem?_inj (by simpa using hi') s3).mp (g2.trans (by rw [g1]; exact congrArg some z))
  obtain ⟨t, o, st2, h⟩ := hr T' _ X' (by rw [e']; exact Rep.write hG W' hO hN) (fr_snoc hF)
  exact ⟨t, o, st _ st2, h⟩
theorem ix_in {c : Cell} {vs : List Value} {x : Int32} {i : Nat} (hs : c.slots.toList = vs) (hx : x.toInt = i) (hi : i < vs.length) : ¬ (x < 0 ∨ c.slots.size ≤ x.toNatClampNeg) ∧ x.toNatClampNeg = i := by
  have h1 : x.toNatClampNeg = i := by simp [Int32.toNatClampNeg, hx]
  subst hs
  refine ⟨fun q => ?_, h1⟩
  rcases q with q | q
  · rw [Int32.lt_iff_toInt_lt, hx] at q
    simp at q
    omega
  · rw [h1] at q
    simp at hi
    omega
theorem arr_get {c : Cell} {vs : List Value} {x : Int32} {i : Nat} (hs : c.slots.toList = vs) (h1 : x.toNatClampNeg = i) (hv : vs[i]? = some v) : c.slots[x.toNatClampNeg]? = some v := by
  subst hs; rw [h1]; simpa using hv
/-- what a load of an array's component pushes -/
theorem Walk.iaload (W : Walk tab sig l Z a0 n0 own nm bytes maxL ret R Q J) {x : Int32} (i : Nat) {vs : List Value} (hd : decode bytes pc = .ok (.iaload, 1)) (hO : G[j]? = some (.inr .int, vs)) (hi : x.toInt = i) (hv : vs[i]? = some v)
    (hr : J pc' Ls (v :: S) G k sl) (hp : pc + 1 = pc' := by rfl) : J pc Ls (.int x :: .ref (n0 + j) :: S) G k sl := by
  obtain ⟨p, e, s, m, args, below, meth, c, rfl, hx, hby, hml, hret, hlk, hnm, hZ, hown, hw, hS⟩ := W
  subst hp
  intro T locs X hG hF
  obtain ⟨cl, A, hs, -⟩ := hG.2.2.2 j _ hO
  obtain ⟨q1, q2⟩ := ix_in hs hi (List.getElem?_eq_some_iff.mp hv).1
  obtain ⟨t, o, st, h⟩ := hr T locs X hG hF
  exact ⟨t, o, X.iaload hx A.1 (State.isArrayOf_alike hZ.alike A.2.1) A.2.2 q1 (arr_get hs q2 hv) (g := mkF m pc Ls.toArray (.int x :: .ref (n0 + j) :: S)) rfl rfl (Jvm.hb hby hd) _ st, h⟩
theorem Walk.laload (W : Walk tab sig l Z a0 n0 own nm bytes maxL ret R Q J) {x : Int32} (i : Nat) {vs : List Value} (hd : decode bytes pc = .ok (.laload, 1)) (hO : G[j]? = some (.inr .long, vs)) (hi : x.toInt = i) (hv : vs[i]? = some v)
    (hr : J pc' Ls (v :: S) G k sl) (hp : pc + 1 = pc' := by rfl) : J pc Ls (.int x :: .ref (n0 + j) :: S) G k sl := by
  obtain ⟨p, e, s, m, args, below, meth, c, rfl, hx, hby, hml, hret, hlk, hnm, hZ, hown, hw, hS⟩ := W
  subst hp
  intro T locs X hG hF
  obtain ⟨cl, A, hs, -⟩ := hG.2.2.2 j _ hO
  obtain ⟨q1, q2⟩ := ix_in hs hi (List.getElem?_eq_some_iff.mp hv).1
  obtain ⟨t, o, st, h⟩ := hr T locs X hG hF
  exact ⟨t, o, X.laload hx A.1 (State.isArrayOf_alike hZ.alike A.2.1) A.2.2 q1 (arr_get hs q2 hv) (g := mkF m pc Ls.toArray (.int x :: .ref (n0 + j) :: S)) rfl rfl (Jvm.hb hby hd) _ st, h⟩
theorem Walk.baload (W : Walk tab sig l Z a0 n0 own nm bytes maxL ret R Q J) {x : Int32} (i : Nat) {vs : List Value} (hd : decode bytes pc = .ok (.baload, 1)) (hO : G[j]? = some (.inr .byte, vs)) (hi : x.toInt = i) (hv : vs[i]? = some v)
    (hr : J pc' Ls (v :: S) G k sl) (hp : pc + 1 = pc' := by rfl) : J pc Ls (.int x :: .ref (n0 + j) :: S) G k sl := by
  obtain ⟨p, e, s, m, args, below, meth, c, rfl, hx, hby, hml, hret, hlk, hnm, hZ, hown, hw, hS⟩ := W
  subst hp
  intro T locs X hG hF
  obtain ⟨cl, A, hs, -⟩ := hG.2.2.2 j _ hO
  obtain ⟨q1, q2⟩ := ix_in hs hi (List.getElem?_eq_some_iff.mp hv).1
  obtain ⟨t, o, st, h⟩ := hr T locs X hG hF
  exact ⟨t, o, X.baloadBytes hx A.1 (State.isArrayOf_alike hZ.alike A.2.1) A.2.2 q1 (arr_get hs q2 hv) (g := mkF m pc Ls.toArray (.int x :: .ref (n0 + j) :: S)) rfl rfl (Jvm.hb hby hd) _ st, h⟩
theorem Walk.aaload (W : Walk tab sig l Z a0 n0 own nm bytes maxL ret R Q J) {x : Int32} {ty : FieldType} (i : Nat) {vs : List Value} (hd : decode bytes pc = .ok (.aaload, 1)) (hO : G[j]? = some (.inr ty, vs)) (hty : ty.isReference = true) (hi : x.toInt = i) (hv : vs[i]? = some v)
    (hr : J pc' Ls (v :: S) G k sl) (hp : pc + 1 = pc' := by rfl) : J pc Ls (.int x :: .ref (n0 + j) :: S) G k sl := by
  obtain ⟨p, e, s, m, args, below, meth, c, rfl, hx, hby, hml, hret, hlk, hnm, hZ, hown, hw, hS⟩ := W
  subst hp
  intro T locs X hG hF
  obtain ⟨cl, A, hs, -⟩ := hG.2.2.2 j _ hO
  obtain ⟨q1, q2⟩ := ix_in hs hi (List.getElem?_eq_some_iff.mp hv).1
  obtain ⟨t, o, st, h⟩ := hr T locs X hG hF
  exact ⟨t, o, X.aaload hx A.1 (State.isArrayOf_alike hZ.alike A.2.1) hty A.2.2 q1 (arr_get hs q2 hv) (g := mkF m pc Ls.toArray (.int x :: .ref (n0 + j) :: S)) rfl rfl (Jvm.hb hby hd) _ st, h⟩
theorem Walk.arraylength (W : Walk tab sig l Z a0 n0 own nm bytes maxL ret R Q J) {ty : FieldType} {vs : List Value} (z : Int32) (hd : decode bytes pc = .ok (.arraylength, 1)) (hO : G[j]? = some (.inr ty, vs)) (hz : vs.length.toInt32 = z)
    (hr : J pc' Ls (.int z :: S) G k sl) (hp : pc + 1 = pc' := by rfl) : J pc Ls (.ref (n0 + j) :: S) G k sl := by
  obtain ⟨p, e, s, m, args, below, meth, c, rfl, hx, hby, hml, hret, hlk, hnm, hZ, hown, hw, hS⟩ := W
  subst hp hz
  intro T locs X hG hF
  obtain ⟨cl, A, hs, -⟩ := hG.2.2.2 j _ hO
  obtain ⟨t, o, st, h⟩ := hr T locs X hG hF
  have e : cl.slots.size.toInt32 = vs.length.toInt32 := by rw [← hs]; simp
  exact ⟨t, o, X.arraylength hx A.1 (State.isArrayOf_alike hZ.alike A.2.1) (g := mkF m pc Ls.toArray (.ref (n0 + j) :: S)) rfl rfl (Jvm.hb hby hd) _ (by rw [e]; exact st), h⟩
theorem ObjAt.set {ty : FieldType} {vs : List Value} {x : Int32} {i : Nat} (W : Wr h h' a x.toNatClampNeg v) (F : ObjAt sig Z h a (.inr ty, vs)) (hi : x.toNatClampNeg = i) (hf : fits ty v = true) : ObjAt sig Z h' a (.inr ty, vs.set i v) := by
  obtain ⟨c, A, hs, h1, h2, h3⟩ := F
  subst hi hs
  refine ⟨_, A.same W, by simp [Cell.setSlot], by simpa using h1, fun u hu => ?_, h3⟩
  rcases List.mem_or_eq_of_mem_set hu with q | q
  · exact h2 u q
  · rw [q]; exact hf
theorem Walk.iastore (W : Walk tab sig l Z a0 n0 own nm bytes maxL ret R Q J) {x y : Int32} (i : Nat) {vs : List Value} (hd : decode bytes pc = .ok (.iastore, 1)) (hO : G[j]? = some (.inr .int, vs)) (hi : x.toInt = i) (hl : i < vs.length)
    (hr : J pc' Ls S (G.set j (.inr .int, vs.set i (.int y))) k sl) (hp : pc + 1 = pc' := by rfl) : J pc Ls (.int y :: .int x :: .ref (n0 + j) :: S) G k sl := by
  obtain ⟨p, e, s, m, args, below, meth, c, rfl, hx, hby, hml, hret, hlk, hnm, hZ, hown, hw, hS⟩ := W
  subst hp
  intro T locs X hG hF
  have F := hG.2.2.2 j _ hO
  obtain ⟨cl, A, hs, -⟩ := F
  obtain ⟨q1, q2⟩ := ix_in hs hi hl
  obtain ⟨T', h', X', e', W', st⟩ := stI X hx hZ rfl A q1 (g := mkF m pc Ls.toArray (.int y :: .int x :: .ref (n0 + j) :: S)) rfl rfl (Jvm.hb hby hd)
  obtain ⟨t, o, st2, h⟩ := hr T' _ X' (by rw [e']; exact Rep.write hG W' hO (ObjAt.set W' (hG.2.2.2 j _ hO) q2 rfl)) (fr_snoc hF)
  exact ⟨t, o, st _ st2, h⟩
theorem Walk.lastore (W : Walk tab sig l Z a0 n0 own nm bytes maxL ret R Q J) {x : Int32} {y : Int64} (i : Nat) {vs : List Value} (hd : decode bytes pc = .ok (.lastore, 1)) (hO : G[j]? = some (.inr .long, vs)) (hi : x.toInt = i) (hl : i < vs.length)
    (hr : J pc' Ls S (G.set j (.inr .long, vs.set i (.long y))) k sl) (hp : pc + 1 = pc' := by rfl) : J pc Ls (.long y :: .int x :: .ref (n0 + j) :: S) G k sl := by
  obtain ⟨p, e, s, m, args, below, meth, c, rfl, hx, hby, hml, hret, hlk, hnm, hZ, hown, hw, hS⟩ := W
  subst hp
  intro T locs X hG hF
  have F := hG.2.2.2 j _ hO
  obtain ⟨cl, A, hs, -⟩ := F
  obtain ⟨q1, q2⟩ := ix_in hs hi hl
  obtain ⟨T', h', X', e', W', st⟩ := stJ X hx hZ rfl A q1 (g := mkF m pc Ls.toArray (.long y :: .int x :: .ref (n0 + j) :: S)) rfl rfl (Jvm.hb hby hd)
  obtain ⟨t, o, st2, h⟩ := hr T' _ X' (by rw [e']; exact Rep.write hG W' hO (ObjAt.set W' (hG.2.2.2 j _ hO) q2 rfl)) (fr_snoc hF)
  exact ⟨t, o, st _ st2, h⟩
theorem Walk.bastore (W : Walk tab sig l Z a0 n0 own nm bytes maxL ret R Q J) {x y : Int32} (i : Nat) {vs : List Value} (hd : decode bytes pc = .ok (.bastore, 1)) (hO : G[j]? = some (.inr .byte, vs)) (hi : x.toInt = i) (hl : i < vs.length)
    (hr : J pc' Ls S (G.set j (.inr .byte, vs.set i (.int y.toInt8.toInt32))) k sl) (hp : pc + 1 = pc' := by rfl) : J pc Ls (.int y :: .int x :: .ref (n0 + j) :: S) G k sl := by
  obtain ⟨p, e, s, m, args, below, meth, c, rfl, hx, hby, hml, hret, hlk, hnm, hZ, hown, hw, hS⟩ := W
  subst hp
  intro T locs X hG hF
  have F := hG.2.2.2 j _ hO
  obtain ⟨cl, A, hs, -⟩ := F
  obtain ⟨q1, q2⟩ := ix_in hs hi hl
  obtain ⟨T', h', X', e', W', st⟩ := stB X hx hZ rfl A q1 (g := mkF m pc Ls.toArray (.int y :: .int x :: .ref (n0 + j) :: S)) rfl rfl (Jvm.hb hby hd)
  obtain ⟨t, o, st2, h⟩ := hr T' _ X' (by rw [e']; exact Rep.write hG W' hO (ObjAt.set (v := .int (nar .byte y)) W' (hG.2.2.2 j _ hO) q2 (fits_nar_byte y))) (fr_snoc hF)
  exact ⟨t, o, st _ st2, h⟩
theorem Walk.new (W : Walk tab sig l Z a0 n0 own nm bytes maxL ret R Q J) {idx n : Nat} (ci : Nat) {C : String} {fs : List Fd} {vs : List Value} (hd : decode bytes pc = .ok (.new idx, 3)) (hc : sig[ci]? = some (C, n, fs)) (w1 : Jvm.Cond.classLink own idx C ∈ tab) (w2 : Jvm.Cond.initialized C ∈ tab)
    (hvs : fs.map (fun f => defaultValue f.2.2.2) = vs) (hk : k + 1 ≤ R.cells) (hsl : sl + n ≤ R.slots) (hr : J pc' Ls (.ref (n0 + G.length) :: S) (G ++ [(.inl ci, vs)]) (k + 1) (sl + n)) (hp : pc + 3 = pc' := by rfl) : J pc Ls S G k sl := by
  obtain ⟨p, e, s, m, args, below, meth, c, rfl, hx, hby, hml, hret, hlk, hnm, hZ, hown, hw, hS⟩ := W
  subst hp hvs
  intro T locs X hG hF
  obtain ⟨s1, s2, s3⟩ := hS ci C n fs hc
  have w1' := hw _ w1; have w2' := hw _ w2; have wi := hw _ s1
  obtain ⟨vm', cC, kC, h1, h2, h3, h4, X', st⟩ := X.newCold hx hown (mv hZ w1') (mv hZ wi) (mv hZ w2') (g := mkF m pc Ls.toArray S) rfl (Jvm.hb hby hd) hk hsl
  rw [hZ.alike.findClass] at h1
  obtain ⟨kZ, z1, -⟩ := Vm.findClass_spec h1
  obtain ⟨k', z2, z3⟩ := hZ.alike.2.2 _ _ z1
  cases h2.symm.trans z2
  have ei : kC.instanceTypes = kZ.instanceTypes := by rw [z3]
  have hN : (T.heap.push { cls := cC, slots := kC.instanceTypes.map defaultValue, vm := .none })[T.heap.size]? = some { cls := cC, slots := kC.instanceTypes.map defaultValue, vm := .none } := by simp
  have hE : Ext T.heap (T.heap.push { cls := cC, slots := kC.instanceTypes.map defaultValue, vm := .none }) := ⟨by simp, fun a c h => by rw [Array.getElem?_push_lt (Array.getElem?_eq_some_iff.mp h).1]; exact (Array.getElem?_eq_getElem _).symm.trans h⟩
  have hO : ObjAt sig Z (T.heap.push { cls := cC, slots := kC.instanceTypes.map defaultValue, vm := .none }) T.heap.size (.inl ci, fs.map (fun f => defaultValue f.2.2.2)) := by
    refine ⟨C, n, fs, hc, ⟨_, kZ, hN, h1, z1, rfl, fun _ => by simp [ei]⟩, by simp, fun i O f d ty v hf hv => ?_⟩
    have hv' : v = defaultValue ty := by simp [hf] at hv; exact hv.symm
    subst hv'
    obtain ⟨q1, q2⟩ := s2 _ (List.mem_of_getElem? hf)
    obtain ⟨c1, k1, cf, kf, i, f, a1, a2, a3, a4, a5, a6, -⟩ := Laid.spec (a0 := a0) (q1.imp (hw _) (hw _))
    cases h1.symm.trans a1
    cases z1.symm.trans a2
    exact ⟨_, cf, kf, i, f, hN, a3, a4, by simp, rfl, a5, by simp [ei, a6, (State.fieldFound?_type a3 q2).2]⟩
  have hsz : T.heap.size = n0 + G.length := hG.2.2.1
  have hR := Rep.push hG hE (by simp) hO
  obtain ⟨t, o, st2, h⟩ := hr _ locs X' hR hF
  rw [hsz] at st
  exact ⟨t, o, st _ st2, h⟩
theorem Walk.newarray (W : Walk tab sig l Z a0 n0 own nm bytes maxL ret R Q J) {aty : ArrayType} {x : Int32} (N : Nat) {vs : List Value} (hd : decode bytes pc = .ok (.newarray aty, 2)) (w1 : Jvm.Cond.arrayClass (newarray.typeOf aty) ∈ tab)
    (hN : x.toInt = N) (hvs : List.replicate N (defaultValue (newarray.typeOf aty)) = vs) (hb8 : N * 8 ≤ 536870912) (hk : k + 1 ≤ R.cells) (hsl : sl + N ≤ R.slots)
    (hr : J pc' Ls (.ref (n0 + G.length) :: S) (G ++ [(.inr (newarray.typeOf aty), vs)]) (k + 1) (sl + N)) (hp : pc + 2 = pc' := by rfl) : J pc Ls (.int x :: S) G k sl := by
  obtain ⟨p, e, s, m, args, below, meth, c, rfl, hx, hby, hml, hret, hlk, hnm, hZ, hown, hw, hS⟩ := W
  subst hp hvs
  intro T locs X hG hF
  have hcl : x.toNatClampNeg = N := by simp [Int32.toNatClampNeg, hN]
  have hcb : componentBytes (newarray.typeOf aty) ≤ 8 := by cases aty <;> decide
  obtain ⟨cA, kA, comp, h1, h2, h3, X', st⟩ := X.newarrayPrim hx (mvA hZ (hw _ w1)) (g := mkF m pc Ls.toArray (.int x :: S)) rfl (Jvm.hb hby hd) rfl (by rw [Int32.lt_iff_toInt_lt, hN]; simp <;> omega) (Nat.le_trans (Nat.mul_le_mul (Nat.le_of_eq hcl) hcb) hb8) hk (by rw [hcl]; exact hsl)
  rw [hZ.alike.findClass] at h1
  obtain ⟨kZ, z1, -⟩ := Vm.findClass_spec h1
  obtain ⟨k', z2, z3⟩ := hZ.alike.2.2 _ _ z1
  cases h2.symm.trans z2
  rw [hcl] at X' st
  have hE : Ext T.heap (T.heap.push { cls := cA, slots := Array.replicate N (defaultValue (newarray.typeOf aty)), vm := .none }) := ⟨by simp, fun a c h => by rw [Array.getElem?_push_lt (Array.getElem?_eq_some_iff.mp h).1]; exact (Array.getElem?_eq_getElem _).symm.trans h⟩
  have hO : ObjAt sig Z (T.heap.push { cls := cA, slots := Array.replicate N (defaultValue (newarray.typeOf aty)), vm := .none }) T.heap.size (.inr (newarray.typeOf aty), List.replicate N (defaultValue (newarray.typeOf aty))) := by
    refine ⟨{ cls := cA, slots := Array.replicate N (defaultValue (newarray.typeOf aty)), vm := .none }, ⟨by simp, ⟨by simp, kZ, z1, comp, by rw [← h3, z3]⟩, by simp⟩, by simp, by simp; omega, fun v hv => ?_, h1⟩
    rw [List.eq_of_mem_replicate hv]
    cases aty <;> rfl
  have hsz : T.heap.size = n0 + G.length := hG.2.2.1
  obtain ⟨t, o, st2, h⟩ := hr _ locs X' (Rep.push hG hE (by simp) hO) hF
  rw [hsz] at st
  exact ⟨t, o, st _ st2, h⟩
theorem Walk.initObject (W : Walk tab sig l Z a0 n0 own nm bytes maxL ret R Q J) {idx : Nat} {a : Addr} (hd : decode bytes pc = .ok (.invokespecial idx, 3)) (w1 : Jvm.Cond.methodLink own idx Lib.objectInit ∈ tab) (w2 : Jvm.Cond.instanceMethod Lib.objectInit ∈ tab) (w3 : Jvm.Cond.code Lib.objectInit ⟨#[0xb1]⟩ 1 none ∈ tab)
    (hsz : Ls.length = maxL) (hf : Nat.ble 1 R.frames = true) (hl : Nat.ble ((S.map fun v => v.category).sum + 12) R.locals = true) (hr : J pc' Ls S G k sl) (hp : pc + 3 = pc' := by rfl) : J pc Ls (.ref a :: S) G k sl := by
  obtain ⟨p, e, s, m, args, below, meth, c, rfl, hx, hby, hml, hret, hlk, hnm, hZ, hown, hw, hS⟩ := W
  subst hp
  intro T locs X hG hF
  obtain ⟨T', X', e', st⟩ := initO X hx hZ hown (hw _ w1) (hw _ w2) (hw _ w3) rfl (g := mkF m pc Ls.toArray (.ref a :: S)) rfl (by rw [hml, ← hsz]; simp) rfl (Jvm.hb hby hd) (Nat.le_of_ble_eq_true hf) (W := (S.map fun v => v.category).sum) (by show 2 * 0 + _ ≤ _; omega) (Nat.le_of_ble_eq_true hl)
  obtain ⟨t, o, st2, h⟩ := hr T' locs X' (by rw [e']; exact hG) hF
  exact ⟨t, o, st _ st2, h⟩
theorem fitC_of {c : Cell} {ty : FieldType} {vs : List Value} (A : Arr Z h a c ty) (hs : c.slots.toList = vs) (hf : ∀ v ∈ vs, fits ty v = true) : FitC Z c := fun i v hv => by
  obtain ⟨-, k, hk, comp, hkind⟩ := A.2.1
  have hm : v ∈ vs := by
    rw [← hs]
    have hv' : c.slots.toList[i]? = some v := by simpa using hv
    exact List.mem_of_getElem? hv'
  have e : Z.slotType? c.cls .none i = some ty := by simp [State.slotType?, hk, hkind]
  simp [State.fitsSlot, e, hf v hm]
theorem Walk.clone (W : Walk tab sig l Z a0 n0 own nm bytes maxL ret R Q J) {idx N : Nat} {ty : FieldType} {vs : List Value} {ad : String} (hd : decode bytes pc = .ok (.invokevirtual idx, 3))
    (w1 : Jvm.Cond.methodLink own idx ⟨ad, "clone", "()Ljava/lang/Object;"⟩ ∈ tab) (w2 : Jvm.Cond.sameMethod ad "java/lang/Object" "clone" "()Ljava/lang/Object;" ∈ tab) (w3 : Jvm.Cond.native ⟨"java/lang/Object", "clone", "()Ljava/lang/Object;"⟩ ∈ tab) (w4 : Jvm.Cond.instanceMethod ⟨"java/lang/Object", "clone", "()Ljava/lang/Object;"⟩ ∈ tab)
    (w5 : Jvm.Cond.selects ad ⟨ad, "clone", "()Ljava/lang/Object;"⟩ ⟨"java/lang/Object", "clone", "()Ljava/lang/Object;"⟩ ∈ tab) (w6 : Jvm.Cond.castable ad "java/lang/Cloneable" ∈ tab)
    (hO : G[j]? = some (.inr ty, vs)) (had : "[" ++ ty.toString = ad) (hsz : Ls.length = maxL) (hf : Nat.ble 1 R.frames = true) (hl : Nat.ble ((S.map fun v => v.category).sum + 14) R.locals = true) (hN : vs.length = N) (hk : k + 1 ≤ R.cells) (hsl : sl + N ≤ R.slots)
    (hr : J pc' Ls (.ref (n0 + G.length) :: S) (G ++ [(.inr ty, vs)]) (k + 1) (sl + N)) (hp : pc + 3 = pc' := by rfl) : J pc Ls (.ref (n0 + j) :: S) G k sl := by
  obtain ⟨p, e, s, m, args, below, meth, c, rfl, hx, hby, hml, hret, hlk, hnm, hZ, hown, hw, hS⟩ := W
  subst hp had
  intro T locs X hG hF
  obtain ⟨cl, A, hs, hlt, hfits, hcls⟩ := hG.2.2.2 j _ hO
  obtain ⟨c1, cC, g1, g2, g3⟩ := Cond.castable_spec (hw _ w6)
  cases hcls.symm.trans g1
  have hal : Z.vm.Alike T.vm := hZ.alike.trans X.warmed.alike
  have hsz' : cl.slots.size = N := by rw [← hN, ← hs]; simp
  have hFC := fitC_of A hs hfits
  obtain ⟨vm', X', st⟩ := X.cloneArray hx hown (mv hZ (hw _ w1)) (mv hZ (hw _ w2)) (mv hZ (hw _ w3)) (mv hZ (hw _ w4)) (mv hZ (hw _ w5)) (a := n0 + j) A.1 A.2.1.1 A.2.2 (by rw [hZ.alike.findClass]; exact hcls) (by rw [hZ.alike.findClass]; exact g2) (by rw [hZ.alike.assignable]; exact g3)
    (fun i v hv => by have q := hFC i v hv; rw [← State.fitsSlot_setVm hal] at q; exact q) (g := mkF m pc Ls.toArray (.ref (n0 + j) :: S)) rfl (by rw [hml, ← hsz]; simp) rfl (Jvm.hb hby hd) (Nat.le_of_ble_eq_true hf) (by show 2 * 0 + _ + 14 ≤ _; have := Nat.le_of_ble_eq_true hl; omega) hk (by rw [hsz']; exact hsl)
    (by obtain ⟨-, k2, hk2, comp, hkind⟩ := A.2.1; rw [hZ.alike.clonesLoader]; exact Vm.clonesLoader_of_array hk2 hkind)
  rw [hsz'] at X'
  have hE : Ext T.heap (T.heap.push (cloneOf cl)) := ext_of fun a q => Array.getElem?_push_lt q |>.trans (Array.getElem?_eq_getElem q).symm
  have hO' : ObjAt sig Z (T.heap.push (cloneOf cl)) T.heap.size (.inr ty, vs) := ⟨cloneOf cl, ⟨by simp, ⟨fun _ z => (by cases z), A.2.1.2⟩, fun z => (by cases z)⟩, hs, hlt, hfits, hcls⟩
  have hsz : T.heap.size = n0 + G.length := hG.2.2.1
  obtain ⟨t, o, st2, h⟩ := hr _ locs X' (Rep.push hG hE (by simp) hO') hF
  rw [hsz] at st
  exact ⟨t, o, st _ st2, h⟩
theorem Walk.castArr (W : Walk tab sig l Z a0 n0 own nm bytes maxL ret R Q J) {idx : Nat} {ty : FieldType} {vs : List Value} {K : String} (hd : decode bytes pc = .ok (.checkcast idx, 3)) (w1 : Jvm.Cond.classLink own idx K ∈ tab) (hO : G[j]? = some (.inr ty, vs)) (hK : "[" ++ ty.toString = K)
    (hr : J pc' Ls (.ref (n0 + j) :: S) G k sl) (hp : pc + 3 = pc' := by rfl) : J pc Ls (.ref (n0 + j) :: S) G k sl := by
  obtain ⟨p, e, s, m, args, below, meth, c, rfl, hx, hby, hml, hret, hlk, hnm, hZ, hown, hw, hS⟩ := W
  subst hp hK
  intro T locs X hG hF
  obtain ⟨cl, A, hs, hlt, hfits, hcls⟩ := hG.2.2.2 j _ hO
  obtain ⟨T', X', e', st⟩ := castY X hx hZ hown (hw _ w1) rfl (a := n0 + j) ⟨cl, cl.cls, A.1, hcls, by simp [A.plain, Vm.assignable_self]⟩ (g := mkF m pc Ls.toArray (.ref (n0 + j) :: S)) rfl rfl (Jvm.hb hby hd)
  obtain ⟨t, o, st2, h⟩ := hr T' locs X' (by rw [e']; exact hG) hF
  exact ⟨t, o, st _ st2, h⟩
theorem Walk.castObj (W : Walk tab sig l Z a0 n0 own nm bytes maxL ret R Q J) {idx ci n : Nat} {C K : String} {fs : List Fd} {vs : List Value} (hd : decode bytes pc = .ok (.checkcast idx, 3)) (w1 : Jvm.Cond.classLink own idx K ∈ tab) (hO : G[j]? = some (.inl ci, vs)) (hc : sig[ci]? = some (C, n, fs)) (w2 : Jvm.Cond.castable C K ∈ tab)
    (hr : J pc' Ls (.ref (n0 + j) :: S) G k sl) (hp : pc + 3 = pc' := by rfl) : J pc Ls (.ref (n0 + j) :: S) G k sl := by
  obtain ⟨p, e, s, m, args, below, meth, c, rfl, hx, hby, hml, hret, hlk, hnm, hZ, hown, hw, hS⟩ := W
  subst hp
  intro T locs X hG hF
  obtain ⟨C', n', fs', e1, E, hlen, F⟩ := hG.2.2.2 j _ hO
  cases hc.symm.trans e1
  obtain ⟨T', X', e', st⟩ := castY X hx hZ hown (hw _ w1) rfl (Ins.of_exa E (hw _ w2)) (g := mkF m pc Ls.toArray (.ref (n0 + j) :: S)) rfl rfl (Jvm.hb hby hd)
  obtain ⟨t, o, st2, h⟩ := hr T' locs X' (by rw [e']; exact hG) hF
  exact ⟨t, o, st _ st2, h⟩
/-! ## calls by their contracts -/
variable {y z : MethodName} {bytes' : ByteArray} {maxL' : Nat} {ret' : Option FieldType} {R' : Room} {as St : List Value} {Q' : Post}
theorem Walk.callStatic (W : Walk tab sig l Z a0 n0 own nm bytes maxL ret R Q J) {idx : Nat} (hd : decode bytes pc = .ok (.invokestatic idx, 3)) (w1 : Jvm.Cond.methodLink own idx y ∈ tab) (w2 : Jvm.Cond.static y ∈ tab) (w3 : Jvm.Cond.initialized y.cls ∈ tab) (w4 : Jvm.Cond.code y bytes' maxL' ret' ∈ tab)
    (hM : Meth sig l Z n0 y bytes' maxL' ret' R' as G Q') (hlen : ∀ sg, parseMethodDescriptor y.desc = some sg → as.length = sg.parameters.length) (hSt : St = as.reverse ++ S) (hsz : Ls.length = maxL) (hf : Nat.ble (R'.frames + 1) R.frames = true) (hl : Nat.ble ((S.map fun v => v.category).sum + (maxL' + 11) + R'.locals) R.locals = true)
    (hk : k + R'.cells ≤ R.cells) (hsl : sl + R'.slots ≤ R.slots) (hr : ∀ v G', Q' v G' → J pc' Ls (v.toList ++ S) G' (k + R'.cells) (sl + R'.slots)) (hp : pc + 3 = pc' := by rfl)
    (hy : y.cls ≠ "java/lang/invoke/MethodHandle" ∧ y.cls ≠ "java/lang/invoke/VarHandle" := by decide) : J pc Ls St G k sl := by
  obtain ⟨p, e, s, m, args, below, meth, c, rfl, hx, hby, hml, hret, hlk, hnm, hZ, hown, hw, hS⟩ := W
  subst hp hSt
  intro T locs X hG hF
  obtain ⟨v, vm₁, ⟨T', L', k', n'⟩, -, X', ⟨Lc, ⟨G', hG', hQ', hF'⟩, l1, y1, z1⟩, st⟩ := Jvm.LawKit.callS X hx (y := y) hown (mvT hZ (hw _ w1)) (mvT hZ (hw _ w2)) (mvT hZ (hw _ w3)) (mvT hZ (hw _ w4)) hy
    (backOf (W := (S.map fun v => v.category).sum) (Q := fun v h L => ∃ G', Rep sig Z n0 h G' ∧ Q' v G' ∧ Fr n0 L) (hM [] T.heap hG) hZ (hw _ w4) (hw _ w3) (Nat.le_of_ble_eq_true hf) (Nat.le_of_ble_eq_true hl))
    (g := mkF m pc Ls.toArray (as.reverse ++ S)) rfl (by rw [hml, ← hsz]; simp) (argsL := as) (rest := S) hlen rfl (by show 2 * 0 + _ ≤ _; omega) (Jvm.hb hby hd) (fun _ _ => ⟨rfl, rfl, hk, hsl⟩)
  dsimp only [Pt.U, Pt.locs, Pt.cells, Pt.slots] at X' l1 y1 z1 st hG'
  subst l1 y1 z1
  obtain ⟨t, o, st2, h⟩ := hr v G' hQ' T' _ X' hG' (Fr.app hF hF')
  exact ⟨t, o, st _ st2, h⟩
theorem Walk.callInit (W : Walk tab sig l Z a0 n0 own nm bytes maxL ret R Q J) {idx : Nat} {a : Addr} (hd : decode bytes pc = .ok (.invokespecial idx, 3)) (w1 : Jvm.Cond.methodLink own idx y ∈ tab) (w2 : Jvm.Cond.instanceMethod y ∈ tab) (w3 : Jvm.Cond.initialized y.cls ∈ tab) (w4 : Jvm.Cond.code y bytes' maxL' none ∈ tab)
    (hM : Meth sig l Z n0 y bytes' maxL' none R' (.ref a :: as) G Q') (hlen : ∀ sg, parseMethodDescriptor y.desc = some sg → as.length = sg.parameters.length) (hSt : St = as.reverse ++ .ref a :: S) (hsz : Ls.length = maxL) (hf : Nat.ble (R'.frames + 1) R.frames = true) (hl : Nat.ble ((S.map fun v => v.category).sum + (maxL' + 11) + R'.locals) R.locals = true)
    (hk : k + R'.cells ≤ R.cells) (hsl : sl + R'.slots ≤ R.slots) (hr : ∀ v G', Q' v G' → J pc' Ls (v.toList ++ S) G' (k + R'.cells) (sl + R'.slots)) (hp : pc + 3 = pc' := by rfl) (hy1 : y.name = "<init>" := by rfl)
    (hy : y.cls ≠ "java/lang/invoke/MethodHandle" ∧ y.cls ≠ "java/lang/invoke/VarHandle" := by decide) : J pc Ls St G k sl := by
  obtain ⟨p, e, s, m, args, below, meth, c, rfl, hx, hby, hml, hret, hlk, hnm, hZ, hown, hw, hS⟩ := W
  subst hp hSt
  intro T locs X hG hF
  obtain ⟨v, vm₁, ⟨T', L', k', n'⟩, -, X', ⟨Lc, ⟨G', hG', hQ', hF'⟩, l1, y1, z1⟩, st⟩ := X.specialBack hx (y := y) hy1 hown (mvT hZ (hw _ w1)) (mvT hZ (hw _ w2)) (mvT hZ (hw _ w4)) hy
    (backOf (W := (S.map fun v => v.category).sum) (Q := fun v h L => ∃ G', Rep sig Z n0 h G' ∧ Q' v G' ∧ Fr n0 L) (hM [] T.heap hG) hZ (hw _ w4) (hw _ w3) (Nat.le_of_ble_eq_true hf) (Nat.le_of_ble_eq_true hl))
    (g := mkF m pc Ls.toArray (as.reverse ++ .ref a :: S)) rfl (by rw [hml, ← hsz]; simp) (Steps.refl _) (a := a) (argsL := as) (rest := S) hlen rfl (by show 2 * 0 + _ ≤ _; omega) (Jvm.hb hby hd) (fun _ _ => ⟨rfl, rfl, hk, hsl⟩)
  dsimp only [Pt.U, Pt.locs, Pt.cells, Pt.slots] at X' l1 y1 z1 st hG'
  subst l1 y1 z1
  obtain ⟨t, o, st2, h⟩ := hr v G' hQ' T' _ X' hG' (Fr.app hF hF')
  exact ⟨t, o, st.trans st2, h⟩
theorem Walk.callVirtual (W : Walk tab sig l Z a0 n0 own nm bytes maxL ret R Q J) {idx ci n : Nat} {C : String} {fs : List Fd} {vs : List Value} (hd : decode bytes pc = .ok (.invokevirtual idx, 3)) (w1 : Jvm.Cond.methodLink own idx y ∈ tab) (w2 : Jvm.Cond.declares y ∈ tab) (w3 : Jvm.Cond.selects C y y ∈ tab) (w4 : Jvm.Cond.instanceMethod y ∈ tab) (w5 : Jvm.Cond.initialized y.cls ∈ tab) (w6 : Jvm.Cond.code y bytes' maxL' ret' ∈ tab)
    (hO : G[j]? = some (.inl ci, vs)) (hc : sig[ci]? = some (C, n, fs))
    (hM : Meth sig l Z n0 y bytes' maxL' ret' R' (.ref (n0 + j) :: as) G Q') (hlen : ∀ sg, parseMethodDescriptor y.desc = some sg → as.length = sg.parameters.length) (hSt : St = as.reverse ++ .ref (n0 + j) :: S) (hsz : Ls.length = maxL) (hf : Nat.ble (R'.frames + 1) R.frames = true) (hl : Nat.ble ((S.map fun v => v.category).sum + (maxL' + 11) + R'.locals) R.locals = true)
    (hk : k + R'.cells ≤ R.cells) (hsl : sl + R'.slots ≤ R.slots) (hr : ∀ v G', Q' v G' → J pc' Ls (v.toList ++ S) G' (k + R'.cells) (sl + R'.slots)) (hp : pc + 3 = pc' := by rfl)
    (hy : y.cls ≠ "java/lang/invoke/MethodHandle" ∧ y.cls ≠ "java/lang/invoke/VarHandle" := by decide) : J pc Ls St G k sl := by
  obtain ⟨p, e, s, m, args, below, meth, c, rfl, hx, hby, hml, hret, hlk, hnm, hZ, hown, hw, hS⟩ := W
  subst hp hSt
  intro T locs X hG hF
  obtain ⟨C', n', fs', e1, E, hlen', F⟩ := hG.2.2.2 j _ hO
  cases hc.symm.trans e1
  obtain ⟨cq, kq, qa, qb, qc⟩ := isOf hZ rfl E
  obtain ⟨v, vm₁, ⟨T', L', k', n'⟩, -, X', ⟨Lc, ⟨G', hG', hQ', hF'⟩, l1, y1, z1⟩, st⟩ := X.virtualBack hx (y := y) (z := y) hown (mvT hZ (hw _ w1)) (mvT hZ (hw _ w2)) (notFace_of_selects (args := #[]) (mvT hZ (hw _ w3))) (mvT hZ (hw _ w3)) (mvT hZ (hw _ w4)) hy
    (backOf (W := (S.map fun v => v.category).sum) (Q := fun v h L => ∃ G', Rep sig Z n0 h G' ∧ Q' v G' ∧ Fr n0 L) (hM [] T.heap hG) hZ (hw _ w6) (hw _ w5) (Nat.le_of_ble_eq_true hf) (Nat.le_of_ble_eq_true hl)) qa qc
    (g := mkF m pc Ls.toArray (as.reverse ++ .ref (n0 + j) :: S)) rfl (by rw [hml, ← hsz]; simp) (Steps.refl _) (argsL := as) (rest := S) hlen rfl (by show 2 * 0 + _ ≤ _; omega) (Jvm.hb hby hd) (fun _ _ => ⟨rfl, rfl, hk, hsl⟩)
  dsimp only [Pt.U, Pt.locs, Pt.cells, Pt.slots] at X' l1 y1 z1 st hG'
  subst l1 y1 z1
  obtain ⟨t, o, st2, h⟩ := hr v G' hQ' T' _ X' hG' (Fr.app hF hF')
  exact ⟨t, o, st.trans st2, h⟩
theorem Walk.callPrivate (W : Walk tab sig l Z a0 n0 own nm bytes maxL ret R Q J) {idx ci n : Nat} {fs : List Fd} {vs : List Value} (hd : decode bytes pc = .ok (.invokevirtual idx, 3)) (w1 : Jvm.Cond.methodLink own idx y ∈ tab) (w2 : Jvm.Cond.instanceMethod y ∈ tab) (w3 : Jvm.Cond.privateMethod y ∈ tab) (w5 : Jvm.Cond.initialized y.cls ∈ tab) (w6 : Jvm.Cond.code y bytes' maxL' ret' ∈ tab)
    (hO : G[j]? = some (.inl ci, vs)) (hc : sig[ci]? = some (y.cls, n, fs))
    (hM : Meth sig l Z n0 y bytes' maxL' ret' R' (.ref (n0 + j) :: as) G Q') (hlen : ∀ sg, parseMethodDescriptor y.desc = some sg → as.length = sg.parameters.length) (hSt : St = as.reverse ++ .ref (n0 + j) :: S) (hsz : Ls.length = maxL) (hf : Nat.ble (R'.frames + 1) R.frames = true) (hl : Nat.ble ((S.map fun v => v.category).sum + (maxL' + 11) + R'.locals) R.locals = true)
    (hk : k + R'.cells ≤ R.cells) (hsl : sl + R'.slots ≤ R.slots) (hr : ∀ v G', Q' v G' → J pc' Ls (v.toList ++ S) G' (k + R'.cells) (sl + R'.slots)) (hp : pc + 3 = pc' := by rfl)
    (hy : y.cls ≠ "java/lang/invoke/MethodHandle" ∧ y.cls ≠ "java/lang/invoke/VarHandle" := by decide) : J pc Ls St G k sl := by
  obtain ⟨p, e, s, m, args, below, meth, c, rfl, hx, hby, hml, hret, hlk, hnm, hZ, hown, hw, hS⟩ := W
  subst hp hSt
  intro T locs X hG hF
  obtain ⟨C', n', fs', e1, E, hlen', F⟩ := hG.2.2.2 j _ hO
  cases hc.symm.trans e1
  obtain ⟨cq, q1, q2⟩ := E.cell
  have hpv : s.PrivateAt y := Cond.privateMethod_at (mvP hZ (hw _ w3) (args := #[]))
  have hin : (Jvm.Cond.instanceMethod y).before args s = true := mvT hZ (hw _ w2)
  have wi : (Jvm.Cond.instantiable y.cls n).before args s = true := mvT hZ (hw _ (hS ci _ n fs hc).1)
  obtain ⟨cc, kc, i1, i2, i3, i4, -⟩ := Cond.instantiable_spec wi
  have i5 : kc.isInterface = false := by
    cases hq : kc.isInterface with
    | false => rfl
    | true => rw [hq] at i4; cases i4
  obtain ⟨v, vm₁, ⟨T', L', k', n'⟩, -, X', ⟨Lc, ⟨G', hG', hQ', hF'⟩, l1, y1, z1⟩, st⟩ := X.privateBack hx (y := y) hown (mvT hZ (hw _ w1)) hin (selects_self_of_private i1 i2 i5 hpv hin hy) hpv (mvT hZ (hw _ w6)) hy
    (backOf (W := (S.map fun v => v.category).sum) (Q := fun v h L => ∃ G', Rep sig Z n0 h G' ∧ Q' v G' ∧ Fr n0 L) (hM [] T.heap hG) hZ (hw _ w6) (hw _ w5) (Nat.le_of_ble_eq_true hf) (Nat.le_of_ble_eq_true hl))
    (g := mkF m pc Ls.toArray (as.reverse ++ .ref (n0 + j) :: S)) rfl (by rw [hml, ← hsz]; simp) (Steps.refl _) q1 q2 (argsL := as) (rest := S) hlen rfl (by show 2 * 0 + _ ≤ _; omega) (Jvm.hb hby hd) (fun _ _ => ⟨rfl, rfl, hk, hsl⟩)
  dsimp only [Pt.U, Pt.locs, Pt.cells, Pt.slots] at X' l1 y1 z1 st hG'
  subst l1 y1 z1
  obtain ⟨t, o, st2, h⟩ := hr v G' hQ' T' _ X' hG' (Fr.app hF hF')
  exact ⟨t, o, st.trans st2, h⟩
/-! ## returns -/
theorem Walk.retV {t : FieldType} (W : Walk tab sig l Z a0 n0 own nm bytes maxL (some t) R Q J) {i : Instr} (hd : decode bytes pc = .ok (i, 1)) (hn : narrow t v = v)
    (hi : (i = .ireturn ∧ (t = .int ∨ t = .boolean ∨ t = .byte ∨ t = .char ∨ t = .short) ∧ ∃ z, v = .int z) ∨ (i = .lreturn ∧ t = .long ∧ ∃ z, v = .long z) ∨ (i = .dreturn ∧ t = .double ∧ ∃ z, v = .double z) ∨ (i = .freturn ∧ t = .float ∧ ∃ z, v = .float z) ∨ (i = .areturn ∧ t.isReference = true ∧ v.isRef = true))
    (hk : k ≤ R.cells) (hsl : sl ≤ R.slots) (hq : Q (some v) G) : J pc Ls (v :: S) G k sl := by
  obtain ⟨p, e, s, m, args, below, meth, c, rfl, hx, hby, hml, hret, hlk, hnm, hZ, hown, hw, hS⟩ := W
  intro T locs X hG hF
  obtain ⟨fs, hr, hrun, hended, hW, hsame⟩ := X.leave (v := some v) (fun h => by rw [hret] at h; cases h) hlk
  exact ⟨_, _, retOut X hx hret hn hi (Jvm.hb hby hd) hr, hrun, hended, _, _, rfl, ⟨G, hG, hq, hF⟩, ⟨_, rfl⟩, hW, hsame.mono hk hsl⟩
theorem Walk.ireturn (W : Walk tab sig l Z a0 n0 own nm bytes maxL (some .int) R Q J) {z : Int32} (hd : decode bytes pc = .ok (.ireturn, 1)) (hk : k ≤ R.cells) (hsl : sl ≤ R.slots) (hq : Q (some (.int z)) G) : J pc Ls (.int z :: S) G k sl :=
  W.retV hd rfl (Or.inl ⟨rfl, Or.inl rfl, z, rfl⟩) hk hsl hq
theorem Walk.zreturn (W : Walk tab sig l Z a0 n0 own nm bytes maxL (some .boolean) R Q J) {z : Int32} (hd : decode bytes pc = .ok (.ireturn, 1)) (hz : z = 0 ∨ z = 1) (hk : k ≤ R.cells) (hsl : sl ≤ R.slots) (hq : Q (some (.int z)) G) : J pc Ls (.int z :: S) G k sl :=
  W.retV hd (by rcases hz with rfl | rfl <;> rfl) (Or.inl ⟨rfl, Or.inr (Or.inl rfl), z, rfl⟩) hk hsl hq
theorem Walk.lreturn (W : Walk tab sig l Z a0 n0 own nm bytes maxL (some .long) R Q J) {z : Int64} (hd : decode bytes pc = .ok (.lreturn, 1)) (hk : k ≤ R.cells) (hsl : sl ≤ R.slots) (hq : Q (some (.long z)) G) : J pc Ls (.long z :: S) G k sl :=
  W.retV hd rfl (Or.inr (Or.inl ⟨rfl, rfl, z, rfl⟩)) hk hsl hq
theorem Walk.areturn {t : FieldType} (W : Walk tab sig l Z a0 n0 own nm bytes maxL (some t) R Q J) (hd : decode bytes pc = .ok (.areturn, 1)) (ht : t.isReference = true) (hv : v.isRef = true) (hk : k ≤ R.cells) (hsl : sl ≤ R.slots) (hq : Q (some v) G) : J pc Ls (v :: S) G k sl :=
  W.retV hd (by rcases ref_cases hv with rfl | ⟨a, rfl⟩ <;> cases t <;> rfl) (Or.inr (Or.inr (Or.inr (Or.inr ⟨rfl, ht, hv⟩)))) hk hsl hq
theorem Walk.return_ (W : Walk tab sig l Z a0 n0 own nm bytes maxL none R Q J) (hd : decode bytes pc = .ok (.return_, 1)) (hk : k ≤ R.cells) (hsl : sl ≤ R.slots) (hq : Q none G) : J pc Ls [] G k sl := by
  obtain ⟨p, e, s, m, args, below, meth, c, rfl, hx, hby, hml, hret, hlk, hnm, hZ, hown, hw, hS⟩ := W
  intro T locs X hG hF
  obtain ⟨fs, hr, hrun, hended, hW, hsame⟩ := X.leave (v := none) (fun _ => rfl) hlk
  exact ⟨_, _, X.returnOut hx hret (Jvm.hb hby hd) hr, hrun, hended, _, _, rfl, ⟨G, hG, hq, hF⟩, ⟨_, rfl⟩, hW, hsame.mono hk hsl⟩
end Heap
end Jvm.OwnWP
namespace Jvm.Pilot.@@N@@
open Jvm Jvm.ClassFile Sem Op Lib Jvm.Free Jvm.Stand Jvm.LawKit Jvm.RoadKit Bundle Jvm.OwnWP Jvm.Pilot.@@N@@.Jvm.D
theorem pn_prog_18_method_1_code : plainFor (⟨"com/example/guest_panes/guestpanes/Rect", "<init>", "(IIII)V"⟩ : MethodName) = true := by first | exact plainFor_of_name (by first | (simp [plainName, overriddenIn]; done) | decide +kernel) | decide +kernel
theorem pn_jdk_30_method_1_code : plainFor (⟨"java/lang/Record", "<init>", "()V"⟩ : MethodName) = true := by first | exact plainFor_of_name (by first | (simp [plainName, overriddenIn]; done) | decide +kernel) | decide +kernel
theorem pn_prog_18_method_4_code : plainFor (⟨"com/example/guest_panes/guestpanes/Rect", "isEmpty", "()Z"⟩ : MethodName) = true := by first | exact plainFor_of_name (by first | (simp [plainName, overriddenIn]; done) | decide +kernel) | decide +kernel
theorem pn_prog_18_method_5_code : plainFor (⟨"com/example/guest_panes/guestpanes/Rect", "contains", "(II)Z"⟩ : MethodName) = true := by first | exact plainFor_of_name (by first | (simp [plainName, overriddenIn]; done) | decide +kernel) | decide +kernel
theorem pn_code : plainFor x = true := by first | exact plainFor_of_name (by first | (simp [plainName, overriddenIn]; done) | decide +kernel) | decide +kernel
def sg : Sig := [("com/example/guest_panes/guestpanes/Rect", 4, [("com/example/guest_panes/guestpanes/Rect", "left", "I", .int), ("com/example/guest_panes/guestpanes/Rect", "top", "I", .int), ("com/example/guest_panes/guestpanes/Rect", "right", "I", .int), ("com/example/guest_panes/guestpanes/Rect", "bottom", "I", .int)])]
theorem sgOk : SigOk tables_1 sg := by
  intro ci C n fs h
  cases ci with
  | zero =>
    cases h
    refine ⟨(tw 3 rfl), ?_, by decide⟩
    intro f hf
    simp only [List.mem_cons, List.not_mem_nil, or_false] at hf
    rcases hf with rfl | rfl | rfl | rfl
    · exact ⟨Or.inr (tw 18 rfl), by decide⟩
    · exact ⟨Or.inr (tw 20 rfl), by decide⟩
    · exact ⟨Or.inr (tw 22 rfl), by decide⟩
    · exact ⟨Or.inr (tw 24 rfl), by decide⟩
  | succ ci =>
    cases h
theorem pd0 : parseMethodDescriptor "()V" = some ⟨[], none⟩ := by decide +kernel
theorem pd1 : parseMethodDescriptor "(IIII)V" = some ⟨[.int, .int, .int, .int], none⟩ := by decide +kernel
theorem pd2 : parseMethodDescriptor "()Z" = some ⟨[], some .boolean⟩ := by decide +kernel
theorem pd3 : parseMethodDescriptor "(II)Z" = some ⟨[.int, .int], some .boolean⟩ := by decide +kernel
theorem d_prog_18_method_1_code_0 : decode prog_18_method_1_code 0 = .ok (.aload_n 0, 1) := by decide +kernel
theorem d_prog_18_method_1_code_1 : decode prog_18_method_1_code 1 = .ok (.invokespecial 1, 3) := by decide +kernel
theorem d_prog_18_method_1_code_4 : decode prog_18_method_1_code 4 = .ok (.iload_n 3, 1) := by decide +kernel
theorem d_prog_18_method_1_code_5 : decode prog_18_method_1_code 5 = .ok (.iload_n 1, 1) := by decide +kernel
theorem d_prog_18_method_1_code_6 : decode prog_18_method_1_code 6 = .ok (.if_icmp .lt 9, 3) := by decide +kernel
theorem d_prog_18_method_1_code_9 : decode prog_18_method_1_code 9 = .ok (.iload 4, 2) := by decide +kernel
theorem d_prog_18_method_1_code_11 : decode prog_18_method_1_code 11 = .ok (.iload_n 2, 1) := by decide +kernel
theorem d_prog_18_method_1_code_12 : decode prog_18_method_1_code 12 = .ok (.if_icmp .ge 24, 3) := by decide +kernel
theorem d_prog_18_method_1_code_15 : decode prog_18_method_1_code 15 = .ok (.new 7, 3) := by decide +kernel
theorem d_prog_18_method_1_code_18 : decode prog_18_method_1_code 18 = .ok (.dup, 1) := by decide +kernel
theorem d_prog_18_method_1_code_19 : decode prog_18_method_1_code 19 = .ok (.iload_n 1, 1) := by decide +kernel
theorem d_prog_18_method_1_code_20 : decode prog_18_method_1_code 20 = .ok (.iload_n 2, 1) := by decide +kernel
theorem d_prog_18_method_1_code_21 : decode prog_18_method_1_code 21 = .ok (.iload_n 3, 1) := by decide +kernel
theorem d_prog_18_method_1_code_22 : decode prog_18_method_1_code 22 = .ok (.iload 4, 2) := by decide +kernel
theorem d_prog_18_method_1_code_24 : decode prog_18_method_1_code 24 = .ok (.invokestatic 9, 3) := by decide +kernel
theorem d_prog_18_method_1_code_27 : decode prog_18_method_1_code 27 = .ok (.invokedynamic 15, 5) := by decide +kernel
theorem d_prog_18_method_1_code_32 : decode prog_18_method_1_code 32 = .ok (.invokespecial 19, 3) := by decide +kernel
theorem d_prog_18_method_1_code_35 : decode prog_18_method_1_code 35 = .ok (.athrow, 1) := by decide +kernel
theorem d_prog_18_method_1_code_36 : decode prog_18_method_1_code 36 = .ok (.iload_n 3, 1) := by decide +kernel
theorem d_prog_18_method_1_code_37 : decode prog_18_method_1_code 37 = .ok (.i2l, 1) := by decide +kernel
theorem d_prog_18_method_1_code_38 : decode prog_18_method_1_code 38 = .ok (.iload_n 1, 1) := by decide +kernel
theorem d_prog_18_method_1_code_39 : decode prog_18_method_1_code 39 = .ok (.i2l, 1) := by decide +kernel
theorem d_prog_18_method_1_code_40 : decode prog_18_method_1_code 40 = .ok (.lsub, 1) := by decide +kernel
theorem d_prog_18_method_1_code_41 : decode prog_18_method_1_code 41 = .ok (.ldc2_w 24, 3) := by decide +kernel
theorem d_prog_18_method_1_code_44 : decode prog_18_method_1_code 44 = .ok (.lcmp, 1) := by decide +kernel
theorem d_prog_18_method_1_code_45 : decode prog_18_method_1_code 45 = .ok (.ifCond .gt 16, 3) := by decide +kernel
theorem d_prog_18_method_1_code_48 : decode prog_18_method_1_code 48 = .ok (.iload 4, 2) := by decide +kernel
theorem d_prog_18_method_1_code_50 : decode prog_18_method_1_code 50 = .ok (.i2l, 1) := by decide +kernel
theorem d_prog_18_method_1_code_51 : decode prog_18_method_1_code 51 = .ok (.iload_n 2, 1) := by decide +kernel
theorem d_prog_18_method_1_code_52 : decode prog_18_method_1_code 52 = .ok (.i2l, 1) := by decide +kernel
theorem d_prog_18_method_1_code_53 : decode prog_18_method_1_code 53 = .ok (.lsub, 1) := by decide +kernel
theorem d_prog_18_method_1_code_54 : decode prog_18_method_1_code 54 = .ok (.ldc2_w 24, 3) := by decide +kernel
theorem d_prog_18_method_1_code_57 : decode prog_18_method_1_code 57 = .ok (.lcmp, 1) := by decide +kernel
theorem d_prog_18_method_1_code_58 : decode prog_18_method_1_code 58 = .ok (.ifCond .le 24, 3) := by decide +kernel
theorem d_prog_18_method_1_code_61 : decode prog_18_method_1_code 61 = .ok (.new 7, 3) := by decide +kernel
theorem d_prog_18_method_1_code_64 : decode prog_18_method_1_code 64 = .ok (.dup, 1) := by decide +kernel
theorem d_prog_18_method_1_code_65 : decode prog_18_method_1_code 65 = .ok (.iload_n 1, 1) := by decide +kernel
theorem d_prog_18_method_1_code_66 : decode prog_18_method_1_code 66 = .ok (.iload_n 2, 1) := by decide +kernel
theorem d_prog_18_method_1_code_67 : decode prog_18_method_1_code 67 = .ok (.iload_n 3, 1) := by decide +kernel
theorem d_prog_18_method_1_code_68 : decode prog_18_method_1_code 68 = .ok (.iload 4, 2) := by decide +kernel
theorem d_prog_18_method_1_code_70 : decode prog_18_method_1_code 70 = .ok (.invokestatic 9, 3) := by decide +kernel
theorem d_prog_18_method_1_code_73 : decode prog_18_method_1_code 73 = .ok (.invokedynamic 26, 5) := by decide +kernel
theorem d_prog_18_method_1_code_78 : decode prog_18_method_1_code 78 = .ok (.invokespecial 19, 3) := by decide +kernel
theorem d_prog_18_method_1_code_81 : decode prog_18_method_1_code 81 = .ok (.athrow, 1) := by decide +kernel
theorem d_prog_18_method_1_code_82 : decode prog_18_method_1_code 82 = .ok (.aload_n 0, 1) := by decide +kernel
theorem d_prog_18_method_1_code_83 : decode prog_18_method_1_code 83 = .ok (.iload_n 1, 1) := by decide +kernel
theorem d_prog_18_method_1_code_84 : decode prog_18_method_1_code 84 = .ok (.putfield 27, 3) := by decide +kernel
theorem d_prog_18_method_1_code_87 : decode prog_18_method_1_code 87 = .ok (.aload_n 0, 1) := by decide +kernel
theorem d_prog_18_method_1_code_88 : decode prog_18_method_1_code 88 = .ok (.iload_n 2, 1) := by decide +kernel
theorem d_prog_18_method_1_code_89 : decode prog_18_method_1_code 89 = .ok (.putfield 31, 3) := by decide +kernel
theorem d_prog_18_method_1_code_92 : decode prog_18_method_1_code 92 = .ok (.aload_n 0, 1) := by decide +kernel
theorem d_prog_18_method_1_code_93 : decode prog_18_method_1_code 93 = .ok (.iload_n 3, 1) := by decide +kernel
theorem d_prog_18_method_1_code_94 : decode prog_18_method_1_code 94 = .ok (.putfield 34, 3) := by decide +kernel
theorem d_prog_18_method_1_code_97 : decode prog_18_method_1_code 97 = .ok (.aload_n 0, 1) := by decide +kernel
theorem d_prog_18_method_1_code_98 : decode prog_18_method_1_code 98 = .ok (.iload 4, 2) := by decide +kernel
theorem d_prog_18_method_1_code_100 : decode prog_18_method_1_code 100 = .ok (.putfield 37, 3) := by decide +kernel
theorem d_prog_18_method_1_code_103 : decode prog_18_method_1_code 103 = .ok (.return_, 1) := by decide +kernel
theorem d_jdk_30_method_1_code_0 : decode jdk_30_method_1_code 0 = .ok (.aload_n 0, 1) := by decide +kernel
theorem d_jdk_30_method_1_code_1 : decode jdk_30_method_1_code 1 = .ok (.invokespecial 1, 3) := by decide +kernel
theorem d_jdk_30_method_1_code_4 : decode jdk_30_method_1_code 4 = .ok (.return_, 1) := by decide +kernel
theorem d_prog_18_method_4_code_0 : decode prog_18_method_4_code 0 = .ok (.aload_n 0, 1) := by decide +kernel
theorem d_prog_18_method_4_code_1 : decode prog_18_method_4_code 1 = .ok (.getfield 27, 3) := by decide +kernel
theorem d_prog_18_method_4_code_4 : decode prog_18_method_4_code 4 = .ok (.aload_n 0, 1) := by decide +kernel
theorem d_prog_18_method_4_code_5 : decode prog_18_method_4_code 5 = .ok (.getfield 34, 3) := by decide +kernel
theorem d_prog_18_method_4_code_8 : decode prog_18_method_4_code 8 = .ok (.if_icmp .eq 14, 3) := by decide +kernel
theorem d_prog_18_method_4_code_11 : decode prog_18_method_4_code 11 = .ok (.aload_n 0, 1) := by decide +kernel
theorem d_prog_18_method_4_code_12 : decode prog_18_method_4_code 12 = .ok (.getfield 31, 3) := by decide +kernel
theorem d_prog_18_method_4_code_15 : decode prog_18_method_4_code 15 = .ok (.aload_n 0, 1) := by decide +kernel
theorem d_prog_18_method_4_code_16 : decode prog_18_method_4_code 16 = .ok (.getfield 37, 3) := by decide +kernel
theorem d_prog_18_method_4_code_19 : decode prog_18_method_4_code 19 = .ok (.if_icmp .ne 7, 3) := by decide +kernel
theorem d_prog_18_method_4_code_22 : decode prog_18_method_4_code 22 = .ok (.iconst 1, 1) := by decide +kernel
theorem d_prog_18_method_4_code_23 : decode prog_18_method_4_code 23 = .ok (.goto 4, 3) := by decide +kernel
theorem d_prog_18_method_4_code_26 : decode prog_18_method_4_code 26 = .ok (.iconst 0, 1) := by decide +kernel
theorem d_prog_18_method_4_code_27 : decode prog_18_method_4_code 27 = .ok (.ireturn, 1) := by decide +kernel
theorem d_prog_18_method_5_code_0 : decode prog_18_method_5_code 0 = .ok (.iload_n 1, 1) := by decide +kernel
theorem d_prog_18_method_5_code_1 : decode prog_18_method_5_code 1 = .ok (.aload_n 0, 1) := by decide +kernel
theorem d_prog_18_method_5_code_2 : decode prog_18_method_5_code 2 = .ok (.getfield 27, 3) := by decide +kernel
theorem d_prog_18_method_5_code_5 : decode prog_18_method_5_code 5 = .ok (.if_icmp .lt 31, 3) := by decide +kernel
theorem d_prog_18_method_5_code_8 : decode prog_18_method_5_code 8 = .ok (.iload_n 1, 1) := by decide +kernel
theorem d_prog_18_method_5_code_9 : decode prog_18_method_5_code 9 = .ok (.aload_n 0, 1) := by decide +kernel
theorem d_prog_18_method_5_code_10 : decode prog_18_method_5_code 10 = .ok (.getfield 34, 3) := by decide +kernel
theorem d_prog_18_method_5_code_13 : decode prog_18_method_5_code 13 = .ok (.if_icmp .ge 23, 3) := by decide +kernel
theorem d_prog_18_method_5_code_16 : decode prog_18_method_5_code 16 = .ok (.iload_n 2, 1) := by decide +kernel
theorem d_prog_18_method_5_code_17 : decode prog_18_method_5_code 17 = .ok (.aload_n 0, 1) := by decide +kernel
theorem d_prog_18_method_5_code_18 : decode prog_18_method_5_code 18 = .ok (.getfield 31, 3) := by decide +kernel
theorem d_prog_18_method_5_code_21 : decode prog_18_method_5_code 21 = .ok (.if_icmp .lt 15, 3) := by decide +kernel
theorem d_prog_18_method_5_code_24 : decode prog_18_method_5_code 24 = .ok (.iload_n 2, 1) := by decide +kernel
theorem d_prog_18_method_5_code_25 : decode prog_18_method_5_code 25 = .ok (.aload_n 0, 1) := by decide +kernel
theorem d_prog_18_method_5_code_26 : decode prog_18_method_5_code 26 = .ok (.getfield 37, 3) := by decide +kernel
theorem d_prog_18_method_5_code_29 : decode prog_18_method_5_code 29 = .ok (.if_icmp .ge 7, 3) := by decide +kernel
theorem d_prog_18_method_5_code_32 : decode prog_18_method_5_code 32 = .ok (.iconst 1, 1) := by decide +kernel
theorem d_prog_18_method_5_code_33 : decode prog_18_method_5_code 33 = .ok (.goto 4, 3) := by decide +kernel
theorem d_prog_18_method_5_code_36 : decode prog_18_method_5_code 36 = .ok (.iconst 0, 1) := by decide +kernel
theorem d_prog_18_method_5_code_37 : decode prog_18_method_5_code 37 = .ok (.ireturn, 1) := by decide +kernel
theorem own_i32 (a : Int32) : -2147483648 ≤ a.toInt ∧ a.toInt ≤ 2147483647 := ⟨by have := Int32.le_toInt a; omega, by have := Int32.toInt_lt a; omega⟩
theorem own_i64 (a : Int64) : -9223372036854775808 ≤ a.toInt ∧ a.toInt ≤ 9223372036854775807 := ⟨by have := Int64.le_toInt a; omega, by have := Int64.toInt_lt a; omega⟩
theorem own_sub {x y : Int64} (h1 : -9223372036854775808 ≤ x.toInt - y.toInt) (h2 : x.toInt - y.toInt ≤ 9223372036854775807) : (x - y).toInt = x.toInt - y.toInt := by
  rw [Int64.toInt_sub, Int.bmod_eq_of_le] <;> omega
theorem own_add {x y : Int64} (h1 : -9223372036854775808 ≤ x.toInt + y.toInt) (h2 : x.toInt + y.toInt ≤ 9223372036854775807) : (x + y).toInt = x.toInt + y.toInt := by
  rw [Int64.toInt_add, Int.bmod_eq_of_le] <;> omega
theorem own_isub {x y : Int32} (h1 : -2147483648 ≤ x.toInt - y.toInt) (h2 : x.toInt - y.toInt ≤ 2147483647) : (x - y).toInt = x.toInt - y.toInt := by
  rw [Int32.toInt_sub, Int.bmod_eq_of_le] <;> omega
theorem own_iadd {x y : Int32} (h1 : -2147483648 ≤ x.toInt + y.toInt) (h2 : x.toInt + y.toInt ≤ 2147483647) : (x + y).toInt = x.toInt + y.toInt := by
  rw [Int32.toInt_add, Int.bmod_eq_of_le] <;> omega
theorem own_up (a : Int32) : a.toInt64.toInt = a.toInt := Int32.toInt_toInt64 a
theorem own_down {x : Int64} (h1 : -2147483648 ≤ x.toInt) (h2 : x.toInt ≤ 2147483647) : x.toInt32.toInt = x.toInt := by
  rw [Int64.toInt_toInt32, Int.bmod_eq_of_le] <;> omega
theorem own_pos (b : Int32) : 0 ≤ (b &&& 2147483647).toInt ∧ (b &&& 2147483647).toInt ≤ 2147483647 := by
  have hn : ¬ (b &&& 2147483647 < 0) := by
    rw [XT.and_neg32]; intro q; exact absurd q.2 (by decide)
  rw [Int32.lt_iff_toInt_lt] at hn
  exact ⟨by simpa using hn, (own_i32 _).2⟩
def own_contains (l t r b x y : Int32) : Int32 := if x < l then 0 else if x < r then (if y < t then 0 else if y < b then 1 else 0) else 0
def own_empty (l t r b : Int32) : Int32 := if l = r then 1 else if t = b then 1 else 0
theorem own_sub32 (a b : Int32) : (a.toInt64 - b.toInt64).toInt = a.toInt - b.toInt := by
  have h1 := own_i32 a; have h2 := own_i32 b
  rw [own_sub] <;> rw [own_up, own_up] <;> omega
/-- a length and an edge that fit -/
def own_ok (a : Int32) (w : Int64) : Prop := 0 ≤ w.toInt ∧ w.toInt ≤ 2147483647 ∧ a.toInt + w.toInt ≤ 2147483647
theorem own_r {a : Int32} {w : Int64} (h : own_ok a w) : (a.toInt64 + w).toInt32.toInt = a.toInt + w.toInt := by
  have h1 := own_i32 a; obtain ⟨q1, q2, q3⟩ := h
  have e : (a.toInt64 + w).toInt = a.toInt + w.toInt := by rw [own_add] <;> rw [own_up] <;> omega
  rw [own_down] <;> rw [e] <;> omega
theorem own_ge {a : Int32} {w : Int64} (h : own_ok a w) : ¬ (a.toInt64 + w).toInt32 < a := by
  rw [Int32.lt_iff_toInt_lt, own_r h]; have := h.1; omega
theorem own_w {a : Int32} {w : Int64} (h : own_ok a w) : ¬ (2147483647 : Int64) < (a.toInt64 + w).toInt32.toInt64 - a.toInt64 := by
  rw [Int64.lt_iff_toInt_lt, own_sub32, own_r h, show (2147483647 : Int64).toInt = 2147483647 from by decide]; have := h.2.1; omega
theorem own_z {a : Int32} {w : Int64} (h : own_ok a w) : a = (a.toInt64 + w).toInt32 ↔ w = 0 := by
  rw [← Int32.toInt_inj, own_r h, ← Int64.toInt_inj, show (0 : Int64).toInt = 0 from by decide]; omega
theorem own_lt {a : Int32} {w : Int64} (h : own_ok a w) : a < (a.toInt64 + w).toInt32 ↔ ¬ w = 0 := by
  rw [Int32.lt_iff_toInt_lt, own_r h, ← Int64.toInt_inj, show (0 : Int64).toInt = 0 from by decide]; have := h.1; omega
theorem own_e1 {a b : Int32} {v w : Int64} (h : own_ok a v) (h' : own_ok b w) : own_empty a b (a.toInt64 + v).toInt32 (b.toInt64 + w).toInt32 = if v = 0 then 1 else if w = 0 then 1 else 0 := by
  simp only [own_empty, own_z h, own_z h']
theorem own_e2 {a b : Int32} {v w : Int64} (h : own_ok a v) (h' : own_ok b w) : own_contains a b (a.toInt64 + v).toInt32 (b.toInt64 + w).toInt32 a b = if v = 0 then 0 else if w = 0 then 0 else 1 := by
  have i1 : ¬ a < a := by rw [Int32.lt_iff_toInt_lt]; omega
  have i2 : ¬ b < b := by rw [Int32.lt_iff_toInt_lt]; omega
  simp only [own_contains, own_lt h, own_lt h', if_neg i1, if_neg i2]
  by_cases q : v = 0 <;> by_cases r : w = 0 <;> simp [q, r]
theorem own_in {a : Int32} {w : Int64} (h0 : 0 ≤ w.toInt) (h1 : w.toInt ≤ 2147483647) (hc : ¬ (2147483647 : Int64) < a.toInt64 + w) : own_ok a w := by
  have h2 := own_i32 a
  refine ⟨h0, h1, ?_⟩
  have e : (a.toInt64 + w).toInt = a.toInt + w.toInt := by rw [own_add] <;> rw [own_up] <;> omega
  rw [Int64.lt_iff_toInt_lt, e, show (2147483647 : Int64).toInt = 2147483647 from by decide] at hc
  omega
theorem own_cut {w : Int64} (h0 : 0 ≤ w.toInt) (h1 : w.toInt ≤ 2147483647) : own_ok ((2147483647 : Int64) - w).toInt32 w := by
  refine ⟨h0, h1, ?_⟩
  have e : ((2147483647 : Int64) - w).toInt = 2147483647 - w.toInt := by rw [own_sub] <;> rw [show (2147483647 : Int64).toInt = 2147483647 from by decide] <;> omega
  rw [own_down] <;> rw [e] <;> omega
theorem own_len (b : Int32) : 0 ≤ (b &&& 2147483647).toInt64.toInt ∧ (b &&& 2147483647).toInt64.toInt ≤ 2147483647 := by
  rw [own_up]; exact own_pos b
set_option maxRecDepth 65536 in
set_option maxHeartbeats 4000000 in
theorem m_Record__init__ {l : Launch} {Z : State} {a0 : Array Value} {n0 : Nat} (hw : ∀ d ∈ tables_1, d.before a0 Z = true) {a : Addr} {G : Ghost} :
    Meth sg l Z n0 (⟨"java/lang/Record", "<init>", "()V"⟩ : MethodName) jdk_30_method_1_code 1 none ({ frames := 1, cells := 0, slots := 0, locals := 12 } : Room) [.ref a] G (fun v G' => v = none ∧ G' = G) := by
  refine Meth.of (a0 := a0) (tab := tables_1) (Ls := [.val (.ref a)]) pn_jdk_30_method_1_code hw sgOk (fun m => by first | rfl | (simp [entryFrame, mkF, argsToLocals, Value.category]; done)) ?_
  intro J W
  refine W.aloadN (pc' := 1) d_jdk_30_method_1_code_0 rfl rfl ?_
  refine W.initObject (pc' := 4) d_jdk_30_method_1_code_1 (tw 13 rfl) (tw 14 rfl) (tw 15 rfl) rfl rfl rfl ?_
  refine W.return_ d_jdk_30_method_1_code_4 (by decide) (by decide) ?_
  exact ⟨rfl, rfl⟩
set_option maxRecDepth 65536 in
set_option maxHeartbeats 4000000 in
theorem m_Rect__init__IIII {l : Launch} {Z : State} {a0 : Array Value} {n0 : Nat} (hw : ∀ d ∈ tables_1, d.before a0 Z = true) {l_ t r b : Int32} (h1 : ¬ r < l_) (h2 : ¬ b < t) (h3 : ¬ (2147483647 : Int64) < r.toInt64 - l_.toInt64) (h4 : ¬ (2147483647 : Int64) < b.toInt64 - t.toInt64) :
    Meth sg l Z n0 (⟨"com/example/guest_panes/guestpanes/Rect", "<init>", "(IIII)V"⟩ : MethodName) prog_18_method_1_code 5 none ({ frames := 2, cells := 0, slots := 0, locals := 24 } : Room) [.ref (n0 + 0), .int l_, .int t, .int r, .int b] [(.inl 0, [.int 0, .int 0, .int 0, .int 0])] (fun v G' => v = none ∧ G' = [(.inl 0, [.int l_, .int t, .int r, .int b])]) := by
  refine Meth.of (a0 := a0) (tab := tables_1) (Ls := [.val (.ref (n0 + 0)), .val (.int l_), .val (.int t), .val (.int r), .val (.int b)]) pn_prog_18_method_1_code hw sgOk (fun m => by first | rfl | (simp [entryFrame, mkF, argsToLocals, Value.category]; done)) ?_
  intro J W
  refine W.aloadN (pc' := 1) d_prog_18_method_1_code_0 rfl rfl ?_
  refine W.callInit (pc' := 4) d_prog_18_method_1_code_1 (tw 8 rfl) (tw 9 rfl) (tw 11 rfl) (tw 12 rfl) (m_Record__init__ hw) (lenOf pd0 rfl) rfl rfl rfl rfl (by decide) (by decide) (fun v G' hQ => ?_)
  obtain ⟨rfl, rfl⟩ := hQ
  simp only [List.length_cons, List.length_nil, Nat.reduceAdd, Nat.zero_add, List.cons_append, List.nil_append, List.set_cons_zero, List.set_cons_succ, Option.toList]
  refine W.iloadN (pc' := 5) d_prog_18_method_1_code_4 rfl ?_
  refine W.iloadN (pc' := 6) d_prog_18_method_1_code_5 rfl ?_
  refine W.icmp_lt (pc' := 15) (pc2 := 9) d_prog_18_method_1_code_6 (fun hz_ => absurd hz_ (h1)) (fun _ => ?_)
  refine W.iload (pc' := 11) d_prog_18_method_1_code_9 rfl ?_
  refine W.iloadN (pc' := 12) d_prog_18_method_1_code_11 rfl ?_
  refine W.icmp_ge (pc' := 36) (pc2 := 15) d_prog_18_method_1_code_12 (fun hz_ => absurd hz_ (h2)) (fun _ => ?_)
  refine W.iloadN (pc' := 37) d_prog_18_method_1_code_36 rfl ?_
  refine W.i2l (pc' := 38) d_prog_18_method_1_code_37 ?_
  refine W.iloadN (pc' := 39) d_prog_18_method_1_code_38 rfl ?_
  refine W.i2l (pc' := 40) d_prog_18_method_1_code_39 ?_
  refine W.lsub (pc' := 41) d_prog_18_method_1_code_40 ?_
  refine W.ldc2J (pc' := 44) d_prog_18_method_1_code_41 (tw 16 rfl) ?_
  refine W.lcmp (pc' := 45) d_prog_18_method_1_code_44 ?_
  refine W.ifl_gt (pc' := 61) (pc2 := 48) d_prog_18_method_1_code_45 (fun hz_ => absurd hz_ (h3)) (fun _ => ?_)
  refine W.iload (pc' := 50) d_prog_18_method_1_code_48 rfl ?_
  refine W.i2l (pc' := 51) d_prog_18_method_1_code_50 ?_
  refine W.iloadN (pc' := 52) d_prog_18_method_1_code_51 rfl ?_
  refine W.i2l (pc' := 53) d_prog_18_method_1_code_52 ?_
  refine W.lsub (pc' := 54) d_prog_18_method_1_code_53 ?_
  refine W.ldc2J (pc' := 57) d_prog_18_method_1_code_54 (tw 16 rfl) ?_
  refine W.lcmp (pc' := 58) d_prog_18_method_1_code_57 ?_
  refine W.ifl_le (pc' := 82) (pc2 := 61) d_prog_18_method_1_code_58 (fun hz_ => absurd hz_ (h4)) (fun _ => ?_)
  refine W.aloadN (pc' := 83) d_prog_18_method_1_code_82 rfl rfl ?_
  refine W.iloadN (pc' := 84) d_prog_18_method_1_code_83 rfl ?_
  refine W.putfield (pc' := 87) (host := "") 0 d_prog_18_method_1_code_84 (Or.inl (tw 17 rfl)) rfl rfl rfl (Or.inr ⟨tw 18 rfl, rfl, rfl⟩) rfl rfl ?_
  simp only [List.length_cons, List.length_nil, Nat.reduceAdd, Nat.zero_add, List.cons_append, List.nil_append, List.set_cons_zero, List.set_cons_succ, Option.toList]
  refine W.aloadN (pc' := 88) d_prog_18_method_1_code_87 rfl rfl ?_
  refine W.iloadN (pc' := 89) d_prog_18_method_1_code_88 rfl ?_
  refine W.putfield (pc' := 92) (host := "") 1 d_prog_18_method_1_code_89 (Or.inl (tw 19 rfl)) rfl rfl rfl (Or.inr ⟨tw 20 rfl, rfl, rfl⟩) rfl rfl ?_
  simp only [List.length_cons, List.length_nil, Nat.reduceAdd, Nat.zero_add, List.cons_append, List.nil_append, List.set_cons_zero, List.set_cons_succ, Option.toList]
  refine W.aloadN (pc' := 93) d_prog_18_method_1_code_92 rfl rfl ?_
  refine W.iloadN (pc' := 94) d_prog_18_method_1_code_93 rfl ?_
  refine W.putfield (pc' := 97) (host := "") 2 d_prog_18_method_1_code_94 (Or.inl (tw 21 rfl)) rfl rfl rfl (Or.inr ⟨tw 22 rfl, rfl, rfl⟩) rfl rfl ?_
  simp only [List.length_cons, List.length_nil, Nat.reduceAdd, Nat.zero_add, List.cons_append, List.nil_append, List.set_cons_zero, List.set_cons_succ, Option.toList]
  refine W.aloadN (pc' := 98) d_prog_18_method_1_code_97 rfl rfl ?_
  refine W.iload (pc' := 100) d_prog_18_method_1_code_98 rfl ?_
  refine W.putfield (pc' := 103) (host := "") 3 d_prog_18_method_1_code_100 (Or.inl (tw 23 rfl)) rfl rfl rfl (Or.inr ⟨tw 24 rfl, rfl, rfl⟩) rfl rfl ?_
  simp only [List.length_cons, List.length_nil, Nat.reduceAdd, Nat.zero_add, List.cons_append, List.nil_append, List.set_cons_zero, List.set_cons_succ, Option.toList]
  refine W.return_ d_prog_18_method_1_code_103 (by decide) (by decide) ?_
  exact ⟨rfl, rfl⟩
set_option maxRecDepth 65536 in
set_option maxHeartbeats 4000000 in
theorem m_Rect_contains_II {l : Launch} {Z : State} {a0 : Array Value} {n0 : Nat} (hw : ∀ d ∈ tables_1, d.before a0 Z = true) {l_ t r b x_ y : Int32} :
    Meth sg l Z n0 (⟨"com/example/guest_panes/guestpanes/Rect", "contains", "(II)Z"⟩ : MethodName) prog_18_method_5_code 3 (some .boolean) ({ frames := 0, cells := 0, slots := 0, locals := 0 } : Room) [.ref (n0 + 0), .int x_, .int y] [(.inl 0, [.int l_, .int t, .int r, .int b])] (fun v G' => v = some (.int (own_contains l_ t r b x_ y)) ∧ G' = [(.inl 0, [.int l_, .int t, .int r, .int b])]) := by
  refine Meth.of (a0 := a0) (tab := tables_1) (Ls := [.val (.ref (n0 + 0)), .val (.int x_), .val (.int y)]) pn_prog_18_method_5_code hw sgOk (fun m => by first | rfl | (simp [entryFrame, mkF, argsToLocals, Value.category]; done)) ?_
  intro J W
  refine W.iloadN (pc' := 1) d_prog_18_method_5_code_0 rfl ?_
  refine W.aloadN (pc' := 2) d_prog_18_method_5_code_1 rfl rfl ?_
  refine W.getfield (pc' := 5) (host := "") 0 d_prog_18_method_5_code_2 (Or.inl (tw 17 rfl)) rfl rfl rfl rfl ?_
  refine W.icmp_lt (pc' := 36) (pc2 := 8) d_prog_18_method_5_code_5 (fun hc5 => ?_) (fun hc5 => ?_)
  · refine W.iconst (pc' := 37) (0) d_prog_18_method_5_code_36 rfl ?_
    refine W.zreturn d_prog_18_method_5_code_37 (by decide) (by decide) (by decide) ?_
    exact ⟨by simp [own_contains, *], rfl⟩
  · refine W.iloadN (pc' := 9) d_prog_18_method_5_code_8 rfl ?_
    refine W.aloadN (pc' := 10) d_prog_18_method_5_code_9 rfl rfl ?_
    refine W.getfield (pc' := 13) (host := "") 2 d_prog_18_method_5_code_10 (Or.inl (tw 21 rfl)) rfl rfl rfl rfl ?_
    refine W.icmp_ge (pc' := 36) (pc2 := 16) d_prog_18_method_5_code_13 (fun hc13 => ?_) (fun hc13 => ?_)
    · refine W.iloadN (pc' := 17) d_prog_18_method_5_code_16 rfl ?_
      refine W.aloadN (pc' := 18) d_prog_18_method_5_code_17 rfl rfl ?_
      refine W.getfield (pc' := 21) (host := "") 1 d_prog_18_method_5_code_18 (Or.inl (tw 19 rfl)) rfl rfl rfl rfl ?_
      refine W.icmp_lt (pc' := 36) (pc2 := 24) d_prog_18_method_5_code_21 (fun hc21 => ?_) (fun hc21 => ?_)
      · refine W.iconst (pc' := 37) (0) d_prog_18_method_5_code_36 rfl ?_
        refine W.zreturn d_prog_18_method_5_code_37 (by decide) (by decide) (by decide) ?_
        exact ⟨by simp [own_contains, *], rfl⟩
      · refine W.iloadN (pc' := 25) d_prog_18_method_5_code_24 rfl ?_
        refine W.aloadN (pc' := 26) d_prog_18_method_5_code_25 rfl rfl ?_
        refine W.getfield (pc' := 29) (host := "") 3 d_prog_18_method_5_code_26 (Or.inl (tw 23 rfl)) rfl rfl rfl rfl ?_
        refine W.icmp_ge (pc' := 36) (pc2 := 32) d_prog_18_method_5_code_29 (fun hc29 => ?_) (fun hc29 => ?_)
        · refine W.iconst (pc' := 33) (1) d_prog_18_method_5_code_32 rfl ?_
          refine W.goto (pc' := 37) d_prog_18_method_5_code_33 ?_
          refine W.zreturn d_prog_18_method_5_code_37 (by decide) (by decide) (by decide) ?_
          exact ⟨by simp [own_contains, *], rfl⟩
        · refine W.iconst (pc' := 37) (0) d_prog_18_method_5_code_36 rfl ?_
          refine W.zreturn d_prog_18_method_5_code_37 (by decide) (by decide) (by decide) ?_
          exact ⟨by simp [own_contains, *], rfl⟩
    · refine W.iconst (pc' := 37) (0) d_prog_18_method_5_code_36 rfl ?_
      refine W.zreturn d_prog_18_method_5_code_37 (by decide) (by decide) (by decide) ?_
      exact ⟨by simp [own_contains, *], rfl⟩
set_option maxRecDepth 65536 in
set_option maxHeartbeats 4000000 in
theorem m_Rect_isEmpty_ {l : Launch} {Z : State} {a0 : Array Value} {n0 : Nat} (hw : ∀ d ∈ tables_1, d.before a0 Z = true) {l_ t r b : Int32} :
    Meth sg l Z n0 (⟨"com/example/guest_panes/guestpanes/Rect", "isEmpty", "()Z"⟩ : MethodName) prog_18_method_4_code 1 (some .boolean) ({ frames := 0, cells := 0, slots := 0, locals := 0 } : Room) [.ref (n0 + 0)] [(.inl 0, [.int l_, .int t, .int r, .int b])] (fun v G' => v = some (.int (own_empty l_ t r b)) ∧ G' = [(.inl 0, [.int l_, .int t, .int r, .int b])]) := by
  refine Meth.of (a0 := a0) (tab := tables_1) (Ls := [.val (.ref (n0 + 0))]) pn_prog_18_method_4_code hw sgOk (fun m => by first | rfl | (simp [entryFrame, mkF, argsToLocals, Value.category]; done)) ?_
  intro J W
  refine W.aloadN (pc' := 1) d_prog_18_method_4_code_0 rfl rfl ?_
  refine W.getfield (pc' := 4) (host := "") 0 d_prog_18_method_4_code_1 (Or.inl (tw 17 rfl)) rfl rfl rfl rfl ?_
  refine W.aloadN (pc' := 5) d_prog_18_method_4_code_4 rfl rfl ?_
  refine W.getfield (pc' := 8) (host := "") 2 d_prog_18_method_4_code_5 (Or.inl (tw 21 rfl)) rfl rfl rfl rfl ?_
  refine W.icmp_eq (pc' := 22) (pc2 := 11) d_prog_18_method_4_code_8 (fun hc8 => ?_) (fun hc8 => ?_)
  · refine W.iconst (pc' := 23) (1) d_prog_18_method_4_code_22 rfl ?_
    refine W.goto (pc' := 27) d_prog_18_method_4_code_23 ?_
    refine W.zreturn d_prog_18_method_4_code_27 (by decide) (by decide) (by decide) ?_
    exact ⟨by simp [own_empty, *], rfl⟩
  · refine W.aloadN (pc' := 12) d_prog_18_method_4_code_11 rfl rfl ?_
    refine W.getfield (pc' := 15) (host := "") 1 d_prog_18_method_4_code_12 (Or.inl (tw 19 rfl)) rfl rfl rfl rfl ?_
    refine W.aloadN (pc' := 16) d_prog_18_method_4_code_15 rfl rfl ?_
    refine W.getfield (pc' := 19) (host := "") 3 d_prog_18_method_4_code_16 (Or.inl (tw 23 rfl)) rfl rfl rfl rfl ?_
    refine W.icmp_ne (pc' := 26) (pc2 := 22) d_prog_18_method_4_code_19 (fun hc19 => ?_) (fun hc19 => ?_)
    · refine W.iconst (pc' := 23) (1) d_prog_18_method_4_code_22 rfl ?_
      refine W.goto (pc' := 27) d_prog_18_method_4_code_23 ?_
      refine W.zreturn d_prog_18_method_4_code_27 (by decide) (by decide) (by decide) ?_
      exact ⟨by simp [own_empty, *], rfl⟩
    · refine W.iconst (pc' := 27) (0) d_prog_18_method_4_code_26 rfl ?_
      refine W.zreturn d_prog_18_method_4_code_27 (by decide) (by decide) (by decide) ?_
      exact ⟨by simp [own_empty, *], rfl⟩
set_option maxRecDepth 65536 in
set_option maxHeartbeats 4000000 in
theorem own_j86 {l : Launch} {Z : State} {a0 : Array Value} {n0 : Nat} {nm : String} {J : JT} (hw : ∀ d ∈ tables_1, d.before a0 Z = true) (W : Walk tables_1 sg l Z a0 n0 x.cls nm code maxLocals ret room_1 (fun v _ => v = some (.int 1)) J) {a1 a2 a3 a4 a5 : Int32} {v w : Int64} {a b : Int32} (h : own_ok a v) (h' : own_ok b w) : J 86 [.val (.int a1), .val (.int a2), .val (.int a3), .val (.int a4), .val (.int a5), .val (.long v), .second, .val (.long w), .second, .val (.int a), .val (.int b), .unset, .unset, .unset, .unset, .unset] [] [] 0 0 := by
  refine W.iload (pc' := 88) at_86 rfl ?_
  refine W.i2l (pc' := 89) at_88 ?_
  refine W.lload (pc' := 91) at_89 rfl ?_
  refine W.ladd (pc' := 92) at_91 ?_
  refine W.l2i (pc' := 93) at_92 ?_
  refine W.istore (pc' := 95) at_93 rfl ?_
  simp only [List.length_cons, List.length_nil, Nat.reduceAdd, Nat.zero_add, List.cons_append, List.nil_append, List.set_cons_zero, List.set_cons_succ, Option.toList]
  refine W.iload (pc' := 97) at_95 rfl ?_
  refine W.i2l (pc' := 98) at_97 ?_
  refine W.lload (pc' := 100) at_98 rfl ?_
  refine W.ladd (pc' := 101) at_100 ?_
  refine W.l2i (pc' := 102) at_101 ?_
  refine W.istore (pc' := 104) at_102 rfl ?_
  simp only [List.length_cons, List.length_nil, Nat.reduceAdd, Nat.zero_add, List.cons_append, List.nil_append, List.set_cons_zero, List.set_cons_succ, Option.toList]
  refine W.new (pc' := 107) (vs := [.int 0, .int 0, .int 0, .int 0]) 0 at_104 rfl (tw 2 rfl) (tw 4 rfl) rfl (by decide) (by decide) ?_
  simp only [List.length_cons, List.length_nil, Nat.reduceAdd, Nat.zero_add, List.cons_append, List.nil_append, List.set_cons_zero, List.set_cons_succ, Option.toList]
  refine W.dup (pc' := 108) at_107 rfl ?_
  refine W.iload (pc' := 110) at_108 rfl ?_
  refine W.iload (pc' := 112) at_110 rfl ?_
  refine W.iload (pc' := 114) at_112 rfl ?_
  refine W.iload (pc' := 116) at_114 rfl ?_
  refine W.callInit (pc' := 119) at_116 (tw 5 rfl) (tw 6 rfl) (tw 4 rfl) (tw 7 rfl) (m_Rect__init__IIII hw (own_ge h) (own_ge h') (own_w h) (own_w h')) (lenOf pd1 rfl) rfl rfl rfl rfl (by decide) (by decide) (fun v G' hQ => ?_)
  obtain ⟨rfl, rfl⟩ := hQ
  simp only [List.length_cons, List.length_nil, Nat.reduceAdd, Nat.zero_add, List.cons_append, List.nil_append, List.set_cons_zero, List.set_cons_succ, Option.toList]
  refine W.astore (pc' := 121) at_119 rfl rfl ?_
  simp only [List.length_cons, List.length_nil, Nat.reduceAdd, Nat.zero_add, List.cons_append, List.nil_append, List.set_cons_zero, List.set_cons_succ, Option.toList]
  refine W.lload (pc' := 123) at_121 rfl ?_
  refine W.lconst (pc' := 124) (0) at_123 rfl ?_
  refine W.lcmp (pc' := 125) at_124 ?_
  refine W.ifl_eq (pc' := 135) (pc2 := 128) at_125 (fun hc125 => ?_) (fun hc125 => ?_)
  · refine W.iconst (pc' := 136) (1) at_135 rfl ?_
    refine W.goto (pc' := 140) at_136 ?_
    refine W.istore (pc' := 142) at_140 rfl ?_
    simp only [List.length_cons, List.length_nil, Nat.reduceAdd, Nat.zero_add, List.cons_append, List.nil_append, List.set_cons_zero, List.set_cons_succ, Option.toList]
    refine W.aload (pc' := 144) at_142 rfl rfl ?_
    refine W.callVirtual (pc' := 147) at_144 (tw 25 rfl) (tw 26 rfl) (tw 28 rfl) (tw 27 rfl) (tw 4 rfl) (tw 29 rfl) rfl rfl (m_Rect_isEmpty_ hw) (lenOf pd2 rfl) rfl rfl rfl rfl (by decide) (by decide) (fun v G' hQ => ?_)
    obtain ⟨rfl, rfl⟩ := hQ
    simp only [List.length_cons, List.length_nil, Nat.reduceAdd, Nat.zero_add, List.cons_append, List.nil_append, List.set_cons_zero, List.set_cons_succ, Option.toList]
    refine W.istore (pc' := 149) at_147 rfl ?_
    simp only [List.length_cons, List.length_nil, Nat.reduceAdd, Nat.zero_add, List.cons_append, List.nil_append, List.set_cons_zero, List.set_cons_succ, Option.toList]
    refine W.iload (pc' := 151) at_149 rfl ?_
    refine W.iload (pc' := 153) at_151 rfl ?_
    refine W.icmp_eq (pc' := 158) (pc2 := 156) at_153 (fun _ => ?_) (fun hz_ => absurd (by rw [own_e1 h h']; simp [*]) hz_)
    refine W.iload (pc' := 160) at_158 rfl ?_
    refine W.aload (pc' := 162) at_160 rfl rfl ?_
    refine W.iload (pc' := 164) at_162 rfl ?_
    refine W.iload (pc' := 166) at_164 rfl ?_
    refine W.callVirtual (pc' := 169) at_166 (tw 30 rfl) (tw 31 rfl) (tw 33 rfl) (tw 32 rfl) (tw 4 rfl) (tw 34 rfl) rfl rfl (m_Rect_contains_II hw) (lenOf pd3 rfl) rfl rfl rfl rfl (by decide) (by decide) (fun v G' hQ => ?_)
    obtain ⟨rfl, rfl⟩ := hQ
    simp only [List.length_cons, List.length_nil, Nat.reduceAdd, Nat.zero_add, List.cons_append, List.nil_append, List.set_cons_zero, List.set_cons_succ, Option.toList]
    refine W.dia_if_ne (pc' := 176) (pe := 177) (1) (0) at_169 at_172 at_173 at_176 rfl rfl ?_
    refine W.icmp_ne (pc' := 184) (pc2 := 180) at_177 (fun _ => ?_) (fun hz_ => absurd (by rw [own_e1 h h', own_e2 h h']; simp [*]) hz_)
    refine W.iconst (pc' := 181) (1) at_180 rfl ?_
    refine W.goto (pc' := 185) at_181 ?_
    refine W.zreturn at_185 (by decide) (by decide) (by decide) ?_
    rfl
  · refine W.lload (pc' := 130) at_128 rfl ?_
    refine W.lconst (pc' := 131) (0) at_130 rfl ?_
    refine W.lcmp (pc' := 132) at_131 ?_
    refine W.ifl_ne (pc' := 139) (pc2 := 135) at_132 (fun hc132 => ?_) (fun hc132 => ?_)
    · refine W.iconst (pc' := 136) (1) at_135 rfl ?_
      refine W.goto (pc' := 140) at_136 ?_
      refine W.istore (pc' := 142) at_140 rfl ?_
      simp only [List.length_cons, List.length_nil, Nat.reduceAdd, Nat.zero_add, List.cons_append, List.nil_append, List.set_cons_zero, List.set_cons_succ, Option.toList]
      refine W.aload (pc' := 144) at_142 rfl rfl ?_
      refine W.callVirtual (pc' := 147) at_144 (tw 25 rfl) (tw 26 rfl) (tw 28 rfl) (tw 27 rfl) (tw 4 rfl) (tw 29 rfl) rfl rfl (m_Rect_isEmpty_ hw) (lenOf pd2 rfl) rfl rfl rfl rfl (by decide) (by decide) (fun v G' hQ => ?_)
      obtain ⟨rfl, rfl⟩ := hQ
      simp only [List.length_cons, List.length_nil, Nat.reduceAdd, Nat.zero_add, List.cons_append, List.nil_append, List.set_cons_zero, List.set_cons_succ, Option.toList]
      refine W.istore (pc' := 149) at_147 rfl ?_
      simp only [List.length_cons, List.length_nil, Nat.reduceAdd, Nat.zero_add, List.cons_append, List.nil_append, List.set_cons_zero, List.set_cons_succ, Option.toList]
      refine W.iload (pc' := 151) at_149 rfl ?_
      refine W.iload (pc' := 153) at_151 rfl ?_
      refine W.icmp_eq (pc' := 158) (pc2 := 156) at_153 (fun _ => ?_) (fun hz_ => absurd (by rw [own_e1 h h']; simp [*]) hz_)
      refine W.iload (pc' := 160) at_158 rfl ?_
      refine W.aload (pc' := 162) at_160 rfl rfl ?_
      refine W.iload (pc' := 164) at_162 rfl ?_
      refine W.iload (pc' := 166) at_164 rfl ?_
      refine W.callVirtual (pc' := 169) at_166 (tw 30 rfl) (tw 31 rfl) (tw 33 rfl) (tw 32 rfl) (tw 4 rfl) (tw 34 rfl) rfl rfl (m_Rect_contains_II hw) (lenOf pd3 rfl) rfl rfl rfl rfl (by decide) (by decide) (fun v G' hQ => ?_)
      obtain ⟨rfl, rfl⟩ := hQ
      simp only [List.length_cons, List.length_nil, Nat.reduceAdd, Nat.zero_add, List.cons_append, List.nil_append, List.set_cons_zero, List.set_cons_succ, Option.toList]
      refine W.dia_if_ne (pc' := 176) (pe := 177) (1) (0) at_169 at_172 at_173 at_176 rfl rfl ?_
      refine W.icmp_ne (pc' := 184) (pc2 := 180) at_177 (fun _ => ?_) (fun hz_ => absurd (by rw [own_e1 h h', own_e2 h h']; simp [*]) hz_)
      refine W.iconst (pc' := 181) (1) at_180 rfl ?_
      refine W.goto (pc' := 185) at_181 ?_
      refine W.zreturn at_185 (by decide) (by decide) (by decide) ?_
      rfl
    · refine W.iconst (pc' := 140) (0) at_139 rfl ?_
      refine W.istore (pc' := 142) at_140 rfl ?_
      simp only [List.length_cons, List.length_nil, Nat.reduceAdd, Nat.zero_add, List.cons_append, List.nil_append, List.set_cons_zero, List.set_cons_succ, Option.toList]
      refine W.aload (pc' := 144) at_142 rfl rfl ?_
      refine W.callVirtual (pc' := 147) at_144 (tw 25 rfl) (tw 26 rfl) (tw 28 rfl) (tw 27 rfl) (tw 4 rfl) (tw 29 rfl) rfl rfl (m_Rect_isEmpty_ hw) (lenOf pd2 rfl) rfl rfl rfl rfl (by decide) (by decide) (fun v G' hQ => ?_)
      obtain ⟨rfl, rfl⟩ := hQ
      simp only [List.length_cons, List.length_nil, Nat.reduceAdd, Nat.zero_add, List.cons_append, List.nil_append, List.set_cons_zero, List.set_cons_succ, Option.toList]
      refine W.istore (pc' := 149) at_147 rfl ?_
      simp only [List.length_cons, List.length_nil, Nat.reduceAdd, Nat.zero_add, List.cons_append, List.nil_append, List.set_cons_zero, List.set_cons_succ, Option.toList]
      refine W.iload (pc' := 151) at_149 rfl ?_
      refine W.iload (pc' := 153) at_151 rfl ?_
      refine W.icmp_eq (pc' := 158) (pc2 := 156) at_153 (fun _ => ?_) (fun hz_ => absurd (by rw [own_e1 h h']; simp [*]) hz_)
      refine W.iload (pc' := 160) at_158 rfl ?_
      refine W.aload (pc' := 162) at_160 rfl rfl ?_
      refine W.iload (pc' := 164) at_162 rfl ?_
      refine W.iload (pc' := 166) at_164 rfl ?_
      refine W.callVirtual (pc' := 169) at_166 (tw 30 rfl) (tw 31 rfl) (tw 33 rfl) (tw 32 rfl) (tw 4 rfl) (tw 34 rfl) rfl rfl (m_Rect_contains_II hw) (lenOf pd3 rfl) rfl rfl rfl rfl (by decide) (by decide) (fun v G' hQ => ?_)
      obtain ⟨rfl, rfl⟩ := hQ
      simp only [List.length_cons, List.length_nil, Nat.reduceAdd, Nat.zero_add, List.cons_append, List.nil_append, List.set_cons_zero, List.set_cons_succ, Option.toList]
      refine W.dia_if_ne (pc' := 176) (pe := 177) (1) (0) at_169 at_172 at_173 at_176 rfl rfl ?_
      refine W.icmp_ne (pc' := 184) (pc2 := 180) at_177 (fun _ => ?_) (fun hz_ => absurd (by rw [own_e1 h h', own_e2 h h']; simp [*]) hz_)
      refine W.iconst (pc' := 181) (1) at_180 rfl ?_
      refine W.goto (pc' := 185) at_181 ?_
      refine W.zreturn at_185 (by decide) (by decide) (by decide) ?_
      rfl
set_option maxRecDepth 65536 in
set_option maxHeartbeats 4000000 in
theorem own_j61 {l : Launch} {Z : State} {a0 : Array Value} {n0 : Nat} {nm : String} {J : JT} (hw : ∀ d ∈ tables_1, d.before a0 Z = true) (W : Walk tables_1 sg l Z a0 n0 x.cls nm code maxLocals ret room_1 (fun v _ => v = some (.int 1)) J) {a1 a2 a3 a4 a5 : Int32} {v w : Int64} {a : Int32} (h : own_ok a v) (h0 : 0 ≤ w.toInt) (h1 : w.toInt ≤ 2147483647) : J 61 [.val (.int a1), .val (.int a2), .val (.int a3), .val (.int a4), .val (.int a5), .val (.long v), .second, .val (.long w), .second, .val (.int a), .unset, .unset, .unset, .unset, .unset, .unset] [] [] 0 0 := by
  by_cases hc : (2147483647 : Int64) < a2.toInt64 + w
  · refine W.iloadN (pc' := 62) at_61 rfl ?_
    refine W.istore (pc' := 64) at_62 rfl ?_
    simp only [List.length_cons, List.length_nil, Nat.reduceAdd, Nat.zero_add, List.cons_append, List.nil_append, List.set_cons_zero, List.set_cons_succ, Option.toList]
    refine W.iload (pc' := 66) at_64 rfl ?_
    refine W.i2l (pc' := 67) at_66 ?_
    refine W.lload (pc' := 69) at_67 rfl ?_
    refine W.ladd (pc' := 70) at_69 ?_
    refine W.ldc2J (pc' := 73) at_70 (tw 1 rfl) ?_
    refine W.lcmp (pc' := 74) at_73 ?_
    refine W.ifl_le (pc' := 86) (pc2 := 77) at_74 (fun _ => ?_) (fun hz_ => absurd (hc) hz_)
    refine W.ldc2J (pc' := 80) at_77 (tw 1 rfl) ?_
    refine W.lload (pc' := 82) at_80 rfl ?_
    refine W.lsub (pc' := 83) at_82 ?_
    refine W.l2i (pc' := 84) at_83 ?_
    refine W.istore (pc' := 86) at_84 rfl ?_
    simp only [List.length_cons, List.length_nil, Nat.reduceAdd, Nat.zero_add, List.cons_append, List.nil_append, List.set_cons_zero, List.set_cons_succ, Option.toList]
    exact own_j86 hw W h (own_cut h0 h1)
  · refine W.iloadN (pc' := 62) at_61 rfl ?_
    refine W.istore (pc' := 64) at_62 rfl ?_
    simp only [List.length_cons, List.length_nil, Nat.reduceAdd, Nat.zero_add, List.cons_append, List.nil_append, List.set_cons_zero, List.set_cons_succ, Option.toList]
    refine W.iload (pc' := 66) at_64 rfl ?_
    refine W.i2l (pc' := 67) at_66 ?_
    refine W.lload (pc' := 69) at_67 rfl ?_
    refine W.ladd (pc' := 70) at_69 ?_
    refine W.ldc2J (pc' := 73) at_70 (tw 1 rfl) ?_
    refine W.lcmp (pc' := 74) at_73 ?_
    refine W.ifl_le (pc' := 86) (pc2 := 77) at_74 (fun hz_ => absurd hz_ (hc)) (fun _ => ?_)
    exact own_j86 hw W h (own_in h0 h1 hc)
set_option maxRecDepth 65536 in
set_option maxHeartbeats 4000000 in
theorem own_j36 {l : Launch} {Z : State} {a0 : Array Value} {n0 : Nat} {nm : String} {J : JT} (hw : ∀ d ∈ tables_1, d.before a0 Z = true) (W : Walk tables_1 sg l Z a0 n0 x.cls nm code maxLocals ret room_1 (fun v _ => v = some (.int 1)) J) {a1 a2 a3 a4 a5 : Int32} {v w : Int64} (h0 : 0 ≤ v.toInt) (h1 : v.toInt ≤ 2147483647) (h2 : 0 ≤ w.toInt) (h3 : w.toInt ≤ 2147483647) : J 36 [.val (.int a1), .val (.int a2), .val (.int a3), .val (.int a4), .val (.int a5), .val (.long v), .second, .val (.long w), .second, .unset, .unset, .unset, .unset, .unset, .unset, .unset] [] [] 0 0 := by
  by_cases hc : (2147483647 : Int64) < a1.toInt64 + v
  · refine W.iloadN (pc' := 37) at_36 rfl ?_
    refine W.istore (pc' := 39) at_37 rfl ?_
    simp only [List.length_cons, List.length_nil, Nat.reduceAdd, Nat.zero_add, List.cons_append, List.nil_append, List.set_cons_zero, List.set_cons_succ, Option.toList]
    refine W.iload (pc' := 41) at_39 rfl ?_
    refine W.i2l (pc' := 42) at_41 ?_
    refine W.lload (pc' := 44) at_42 rfl ?_
    refine W.ladd (pc' := 45) at_44 ?_
    refine W.ldc2J (pc' := 48) at_45 (tw 1 rfl) ?_
    refine W.lcmp (pc' := 49) at_48 ?_
    refine W.ifl_le (pc' := 61) (pc2 := 52) at_49 (fun _ => ?_) (fun hz_ => absurd (hc) hz_)
    refine W.ldc2J (pc' := 55) at_52 (tw 1 rfl) ?_
    refine W.lload (pc' := 57) at_55 rfl ?_
    refine W.lsub (pc' := 58) at_57 ?_
    refine W.l2i (pc' := 59) at_58 ?_
    refine W.istore (pc' := 61) at_59 rfl ?_
    simp only [List.length_cons, List.length_nil, Nat.reduceAdd, Nat.zero_add, List.cons_append, List.nil_append, List.set_cons_zero, List.set_cons_succ, Option.toList]
    exact own_j61 hw W (own_cut h0 h1) h2 h3
  · refine W.iloadN (pc' := 37) at_36 rfl ?_
    refine W.istore (pc' := 39) at_37 rfl ?_
    simp only [List.length_cons, List.length_nil, Nat.reduceAdd, Nat.zero_add, List.cons_append, List.nil_append, List.set_cons_zero, List.set_cons_succ, Option.toList]
    refine W.iload (pc' := 41) at_39 rfl ?_
    refine W.i2l (pc' := 42) at_41 ?_
    refine W.lload (pc' := 44) at_42 rfl ?_
    refine W.ladd (pc' := 45) at_44 ?_
    refine W.ldc2J (pc' := 48) at_45 (tw 1 rfl) ?_
    refine W.lcmp (pc' := 49) at_48 ?_
    refine W.ifl_le (pc' := 61) (pc2 := 52) at_49 (fun hz_ => absurd hz_ (hc)) (fun _ => ?_)
    exact own_j61 hw W (own_in h0 h1 hc) h2 h3
set_option maxRecDepth 65536 in
set_option maxHeartbeats 4000000 in
theorem m_law {l : Launch} {Z : State} {a0 : Array Value} {n0 : Nat} (hw : ∀ d ∈ tables_1, d.before a0 Z = true) (a1 a2 a3 a4 a5 : Int32) :
    Meth sg l Z n0 x code maxLocals ret room_1 [.int a1, .int a2, .int a3, .int a4, .int a5] [] (fun v G' => v = some (.int 1)) := by
  refine Meth.of (a0 := a0) (tab := tables_1) (Ls := [.val (.int a1), .val (.int a2), .val (.int a3), .val (.int a4), .val (.int a5), .unset, .unset, .unset, .unset, .unset, .unset, .unset, .unset, .unset, .unset, .unset]) pn_code hw sgOk (fun m => by first | rfl | (simp [entryFrame, mkF, argsToLocals, Value.category, maxLocals]; done)) ?_
  intro J W
  refine W.iload (pc' := 2) at_0 rfl ?_
  refine W.iconst (pc' := 3) (1) at_2 rfl ?_
  refine W.iand (pc' := 4) at_3 ?_
  refine W.if_eq (pc' := 11) (pc2 := 7) at_4 (fun hc4 => ?_) (fun hc4 => ?_)
  · refine W.iloadN (pc' := 12) at_11 rfl ?_
    refine W.ldcI (pc' := 14) at_12 (tw 0 rfl) ?_
    refine W.iand (pc' := 15) at_14 ?_
    refine W.i2l (pc' := 16) at_15 ?_
    refine W.lstore (pc' := 18) at_16 rfl ?_
    simp only [List.length_cons, List.length_nil, Nat.reduceAdd, Nat.zero_add, List.cons_append, List.nil_append, List.set_cons_zero, List.set_cons_succ, Option.toList]
    refine W.iload (pc' := 20) at_18 rfl ?_
    refine W.iconst (pc' := 21) (2) at_20 rfl ?_
    refine W.iand (pc' := 22) at_21 ?_
    refine W.if_eq (pc' := 29) (pc2 := 25) at_22 (fun hc22 => ?_) (fun hc22 => ?_)
    · refine W.iloadN (pc' := 30) at_29 rfl ?_
      refine W.ldcI (pc' := 32) at_30 (tw 0 rfl) ?_
      refine W.iand (pc' := 33) at_32 ?_
      refine W.i2l (pc' := 34) at_33 ?_
      refine W.lstore (pc' := 36) at_34 rfl ?_
      simp only [List.length_cons, List.length_nil, Nat.reduceAdd, Nat.zero_add, List.cons_append, List.nil_append, List.set_cons_zero, List.set_cons_succ, Option.toList]
      refine own_j36 hw W ?_ ?_ ?_ ?_
      all_goals first | decide | exact (own_len _).1 | exact (own_len _).2
    · refine W.lconst (pc' := 26) (0) at_25 rfl ?_
      refine W.goto (pc' := 34) at_26 ?_
      refine W.lstore (pc' := 36) at_34 rfl ?_
      simp only [List.length_cons, List.length_nil, Nat.reduceAdd, Nat.zero_add, List.cons_append, List.nil_append, List.set_cons_zero, List.set_cons_succ, Option.toList]
      refine own_j36 hw W ?_ ?_ ?_ ?_
      all_goals first | decide | exact (own_len _).1 | exact (own_len _).2
  · refine W.lconst (pc' := 8) (0) at_7 rfl ?_
    refine W.goto (pc' := 16) at_8 ?_
    refine W.lstore (pc' := 18) at_16 rfl ?_
    simp only [List.length_cons, List.length_nil, Nat.reduceAdd, Nat.zero_add, List.cons_append, List.nil_append, List.set_cons_zero, List.set_cons_succ, Option.toList]
    refine W.iload (pc' := 20) at_18 rfl ?_
    refine W.iconst (pc' := 21) (2) at_20 rfl ?_
    refine W.iand (pc' := 22) at_21 ?_
    refine W.if_eq (pc' := 29) (pc2 := 25) at_22 (fun hc22 => ?_) (fun hc22 => ?_)
    · refine W.iloadN (pc' := 30) at_29 rfl ?_
      refine W.ldcI (pc' := 32) at_30 (tw 0 rfl) ?_
      refine W.iand (pc' := 33) at_32 ?_
      refine W.i2l (pc' := 34) at_33 ?_
      refine W.lstore (pc' := 36) at_34 rfl ?_
      simp only [List.length_cons, List.length_nil, Nat.reduceAdd, Nat.zero_add, List.cons_append, List.nil_append, List.set_cons_zero, List.set_cons_succ, Option.toList]
      refine own_j36 hw W ?_ ?_ ?_ ?_
      all_goals first | decide | exact (own_len _).1 | exact (own_len _).2
    · refine W.lconst (pc' := 26) (0) at_25 rfl ?_
      refine W.goto (pc' := 34) at_26 ?_
      refine W.lstore (pc' := 36) at_34 rfl ?_
      simp only [List.length_cons, List.length_nil, Nat.reduceAdd, Nat.zero_add, List.cons_append, List.nil_append, List.set_cons_zero, List.set_cons_succ, Option.toList]
      refine own_j36 hw W ?_ ?_ ?_ ?_
      all_goals first | decide | exact (own_len _).1 | exact (own_len _).2
set_option maxRecDepth 65536 in
set_option maxHeartbeats 4000000 in
theorem comes_1 {Post : Tables → Env → Array Value → State → Outcome → State → Prop} (hpost : ∀ tb e args s v u, (limb_1_1.after args s (.returned v) u = true ∧ limb_1_2.after args s (.returned v) u = true ∧ True) → FrameEnd s (.returned v) u (Jvm.fieldLocs frame_1_writes args s ++ Jvm.arrayLocs frame_1_arrays args s ++ Jvm.staticLocs frame_1_statics s) 16 128 → Post tb e args s (.returned v) u) :
    ArmFor flags0 classFile x code maxLocals ret World_1 tables_1 room_1 Calls_1 rest_1 Pre_1 Post := by
  intro l hfl _ _ p e ha hc hk s m args below hf hA hF happ hP
  obtain ⟨hcalls, hrest, hpre⟩ := hP
  obtain ⟨-, -, -, hnamed, -, -, -, hat⟩ := (Spec.applies_iff hf).mp happ
  obtain ⟨hg, hn⟩ := and_e (Cond.before_iff.mp (show (Jvm.Cond.and given_1 narrow_1).before args s = true from hpre))
  obtain ⟨g0, h0⟩ := and_e hg
  obtain ⟨w0, w1, w2, w3, w4, rfl⟩ : ∃ w0 w1 w2 w3 w4 : Value, args = #[w0, w1, w2, w3, w4] := by
    have hs : args.size = 5 := by simpa [Cond.value, given_1] using g0
    obtain ⟨L⟩ := args
    match L, hs with
    | [w0, w1, w2, w3, w4], _ => exact ⟨w0, w1, w2, w3, w4, rfl⟩
  have hw := fun d (hd : d ∈ tables_1) => atoms_spec (ws := Jvm.Cond.code x code maxLocals ret :: tables_1) hat d (List.mem_cons_of_mem _ hd)
  obtain ⟨g1, h1⟩ := and_e h0
  obtain ⟨i0, e0⟩ := is_v g1
  obtain rfl : w0 = (.int i0) := Option.some.inj e0
  obtain ⟨g2, h2⟩ := and_e h1
  obtain ⟨i1, e1⟩ := is_v g2
  obtain rfl : w1 = (.int i1) := Option.some.inj e1
  obtain ⟨g3, h3⟩ := and_e h2
  obtain ⟨i2, e2⟩ := is_v g3
  obtain rfl : w2 = (.int i2) := Option.some.inj e2
  obtain ⟨g4, h4⟩ := and_e h3
  obtain ⟨i3, e3⟩ := is_v g4
  obtain rfl : w3 = (.int i3) := Option.some.inj e3
  obtain ⟨i4, e4⟩ := is_v h4
  obtain rfl : w4 = (.int i4) := Option.some.inj e4
  obtain ⟨n, o, h1, h2, h3, _, L, rfl, ⟨G', hG', rfl, N⟩, hq⟩ := m_law (l := l) (n0 := s.heap.size) hw i0 i1 i2 i3 i4 tables_1 s.heap (Rep.start s) p e ha hc hk s m _ below hf ((Spec.applies_iff_loose hf).mp happ).1 ⟨rfl, State.Warmed39.refl s, rfl⟩ trivial
  refine ⟨n, _, h1, h2, h3, hpost _ _ _ _ _ _ ⟨Cond.after_iff.mpr rfl, Cond.after_iff.mpr (eq_i res_at (Term.int_eval (1)) rfl), trivial⟩ ⟨hq.1, hq.2.1, (hq.2.2.sift fun y hy => Or.inr (N y hy)).mono (by decide) (by decide)⟩⟩
theorem main_1_1 : Claimed_1_1 := comes_1 fun _ _ _ _ _ _ h hF => ⟨h.1, hF⟩
theorem main_1_2 : Claimed_1_2 := comes_1 fun _ _ _ _ _ _ h hF => ⟨h.2.1, hF⟩
end Jvm.Pilot.@@N@@
namespace Jvm.Pilot.@@N@@
open Jvm Jvm.ClassFile Sem Op Lib Jvm.Free Jvm.Stand Jvm.Pilot.@@N@@.Jvm.D
/-! MADE BY PROGRAM (witnessworld.py) out of the Statement's table words and the real class files: 10 classes; the members and pool entries that the words name. The judged class is class 1, her method 1. -/
namespace start1
open Jvm.ClassFile
def u (s : String) : CpInfo := .utf8 (stringToUtf16 s)
/-- a pool by its gaps: so many unusable entries, then the entry; so many at the end -/
def gap : Nat → List CpInfo → List CpInfo
  | 0, r => r
  | n + 1, r => .unusable :: gap n r
def poolList (es : List (Nat × CpInfo)) (last : Nat) : List CpInfo := es.foldr (fun e r => gap e.1 (e.2 :: r)) (gap last [])
def pool (es : List (Nat × CpInfo)) (last : Nat) : Array CpInfo := ⟨poolList es last⟩
def fileOf (pool : Array CpInfo) (this : Nat) (attrs : Array Attribute := #[]) (ms : Array MethodInfo := #[]) (fl : Nat := 33) (sup : Nat := 0) (ifs : Array Nat := #[]) (fds : Array FieldInfo := #[]) : ClassFile where
  minorVersion := 0
  majorVersion := 65
  constantPool := pool
  accessFlags := fl
  thisClass := this
  superClass := sup
  interfaces := ifs
  fields := fds
  methods := ms
  attributes := attrs
def plain (name : String) (sup : Option ClassId) : Class where
  name := name
  kind := .ordinary
  loader := none
  accessFlags := 33
  super := sup
  interfaces := #[]
  cf := none
  fields := #[]
  methods := #[]
  instanceTypes := #[]
  staticTypes := #[]
  resolved := #[]
  callSites := []
  init := .initialized
  statics := none
  mirror := none

def pool0 : Array CpInfo := pool [(5, u "<init>"), (0, u "()V"), (1, .class_ 10), (1, u "java/lang/Object")] 113

def k0c0 : Code := { maxStack := 0, maxLocals := 1, code := object_method_1_code, exceptionTable := #[], attributes := #[] }
def k0m0 : Method := { name := "<init>", desc := "()V", sig := { parameters := [], returnType := none }, accessFlags := 1, code := some k0c0 }
/-- java/lang/Object -/
def k0 : Class := { plain "java/lang/Object" none with
  accessFlags := 33
  interfaces := #[]
  cf := some (fileOf pool0 8 #[] #[{ accessFlags := 1, nameIndex := 5, descriptorIndex := 6, attributes := #[] }] 33 0 #[] #[])
  fields := #[]
  methods := #[k0m0]
  instanceTypes := #[]
  staticTypes := #[]
  resolved := Array.replicate 124 none
  statics := none }

def pool1 : Array CpInfo := pool [(2, .class_ 4), (1, u "java/lang/Object"), (0, u "<init>"), (0, u "()V"), (0, .integer 2147483647), (2, .long 2147483647), (1, .class_ 13), (0, u "com/example/guest_panes/guestpanes/Rect"), (0, .methodref 12 15), (0, .nameAndType 5 16), (0, u "(IIII)V"), (0, .methodref 12 18), (0, .nameAndType 19 20), (0, u "isEmpty"), (0, u "()Z"), (0, .methodref 12 22), (0, .nameAndType 23 24), (0, u "contains"), (0, u "(II)Z"), (0, .class_ 26), (0, u "com/example/guest_panes/guestpanes/RectIsEmptyPinLaw"), (2, u "law"), (0, u "(IIIII)Z")] 3

def k1m0 : Method := { name := "<init>", desc := "()V", sig := { parameters := [], returnType := none }, accessFlags := 1, code := none }
def k1c1 : Code := { maxStack := 6, maxLocals := 16, code := code, exceptionTable := #[], attributes := #[] }
def k1m1 : Method := { name := "law", desc := "(IIIII)Z", sig := { parameters := [.int, .int, .int, .int, .int], returnType := some .boolean }, accessFlags := 9, code := some k1c1 }
/-- com/example/guest_panes/guestpanes/RectIsEmptyPinLaw -/
def k1 : Class := { plain "com/example/guest_panes/guestpanes/RectIsEmptyPinLaw" (some 0) with
  accessFlags := 49
  interfaces := #[]
  cf := some (fileOf pool1 25 #[] #[{ accessFlags := 1, nameIndex := 5, descriptorIndex := 6, attributes := #[] }, { accessFlags := 9, nameIndex := 29, descriptorIndex := 30, attributes := #[] }] 49 2 #[] #[])
  fields := #[]
  methods := #[k1m0, k1m1]
  instanceTypes := #[]
  staticTypes := #[]
  resolved := Array.replicate 34 none
  statics := none }

def pool2 : Array CpInfo := pool [(1, .methodref 2 3), (0, .class_ 4), (0, .nameAndType 5 6), (0, u "java/lang/Object"), (0, u "<init>"), (0, u "()V"), (0, .class_ 8), (0, u "java/lang/Record")] 13

def k2c0 : Code := { maxStack := 1, maxLocals := 1, code := jdk_30_method_1_code, exceptionTable := #[], attributes := #[] }
def k2m0 : Method := { name := "<init>", desc := "()V", sig := { parameters := [], returnType := none }, accessFlags := 4, code := some k2c0 }
/-- java/lang/Record -/
def k2 : Class := { plain "java/lang/Record" (some 0) with
  accessFlags := 1057
  interfaces := #[]
  cf := some (fileOf pool2 7 #[] #[{ accessFlags := 4, nameIndex := 5, descriptorIndex := 6, attributes := #[] }] 1057 2 #[] #[])
  fields := #[]
  methods := #[k2m0]
  instanceTypes := #[]
  staticTypes := #[]
  resolved := Array.replicate 22 none
  statics := none }

def pool3 : Array CpInfo := pool [(1, .methodref 2 3), (0, .class_ 4), (0, .nameAndType 5 6), (0, u "java/lang/Record"), (0, u "<init>"), (0, u "()V"), (3, .class_ 12), (1, u "com/example/guest_panes/guestpanes/Rect"), (11, .long 2147483647), (2, .fieldref 10 28), (0, .nameAndType 29 30), (0, u "left"), (0, u "I"), (0, .fieldref 10 32), (0, .nameAndType 33 30), (0, u "top"), (0, .fieldref 10 35), (0, .nameAndType 36 30), (0, u "right"), (0, .fieldref 10 38), (0, .nameAndType 39 30), (0, u "bottom"), (8, u "(IIII)V"), (28, u "isEmpty"), (0, u "()Z"), (0, u "contains"), (0, u "(II)Z")] 44

def k3c0 : Code := { maxStack := 6, maxLocals := 5, code := prog_18_method_1_code, exceptionTable := #[], attributes := #[] }
def k3m0 : Method := { name := "<init>", desc := "(IIII)V", sig := { parameters := [.int, .int, .int, .int], returnType := none }, accessFlags := 1, code := some k3c0 }
def k3c1 : Code := { maxStack := 2, maxLocals := 1, code := prog_18_method_4_code, exceptionTable := #[], attributes := #[] }
def k3m1 : Method := { name := "isEmpty", desc := "()Z", sig := { parameters := [], returnType := some .boolean }, accessFlags := 1, code := some k3c1 }
def k3c2 : Code := { maxStack := 2, maxLocals := 3, code := prog_18_method_5_code, exceptionTable := #[], attributes := #[] }
def k3m2 : Method := { name := "contains", desc := "(II)Z", sig := { parameters := [.int, .int], returnType := some .boolean }, accessFlags := 1, code := some k3c2 }
/-- com/example/guest_panes/guestpanes/Rect -/
def k3 : Class := { plain "com/example/guest_panes/guestpanes/Rect" (some 2) with
  accessFlags := 49
  interfaces := #[]
  cf := some (fileOf pool3 10 #[] #[{ accessFlags := 1, nameIndex := 5, descriptorIndex := 48, attributes := #[] }, { accessFlags := 1, nameIndex := 77, descriptorIndex := 78, attributes := #[] }, { accessFlags := 1, nameIndex := 79, descriptorIndex := 80, attributes := #[] }] 49 2 #[] #[{ accessFlags := 18, nameIndex := 29, descriptorIndex := 30, attributes := #[] }, { accessFlags := 18, nameIndex := 33, descriptorIndex := 30, attributes := #[] }, { accessFlags := 18, nameIndex := 36, descriptorIndex := 30, attributes := #[] }, { accessFlags := 18, nameIndex := 39, descriptorIndex := 30, attributes := #[] }])
  fields := #[{ name := "left", type := .int, accessFlags := 18, slot := 0, constantValue := 0 }, { name := "top", type := .int, accessFlags := 18, slot := 1, constantValue := 0 }, { name := "right", type := .int, accessFlags := 18, slot := 2, constantValue := 0 }, { name := "bottom", type := .int, accessFlags := 18, slot := 3, constantValue := 0 }]
  methods := #[k3m0, k3m1, k3m2]
  instanceTypes := #[.int, .int, .int, .int]
  staticTypes := #[]
  resolved := Array.replicate 125 none
  statics := none }

def pool4 : Array CpInfo := pool [(1, u "java/lang/Cloneable"), (0, .class_ 1), (0, u "java/lang/Object"), (0, .class_ 3)] 3

/-- java/lang/Cloneable -/
def k4 : Class := { plain "java/lang/Cloneable" (some 0) with
  accessFlags := 1537
  interfaces := #[]
  cf := some (fileOf pool4 2 #[] #[] 1537 4 #[] #[])
  fields := #[]
  methods := #[]
  instanceTypes := #[]
  staticTypes := #[]
  resolved := Array.replicate 8 none
  statics := none }

def pool5 : Array CpInfo := pool [(1, u "java/io/Serializable"), (0, .class_ 1), (0, u "java/lang/Object"), (0, .class_ 3)] 3

/-- java/io/Serializable -/
def k5 : Class := { plain "java/io/Serializable" (some 0) with
  accessFlags := 1537
  interfaces := #[]
  cf := some (fileOf pool5 2 #[] #[] 1537 4 #[] #[])
  fields := #[]
  methods := #[]
  instanceTypes := #[]
  staticTypes := #[]
  resolved := Array.replicate 8 none
  statics := none }

/-- the primitive byte -/
def k6 : Class := { plain "byte" none with kind := .primitive 'B', accessFlags := 0x411 }
/-- [B -/
def k7 : Class := { plain "[B" (some 0) with kind := .array 6 .byte, interfaces := #[4, 5], accessFlags := 1041 }

/-- the primitive int -/
def k8 : Class := { plain "int" none with kind := .primitive 'I', accessFlags := 0x411 }
/-- [I -/
def k9 : Class := { plain "[I" (some 0) with kind := .array 8 .int, interfaces := #[4, 5], accessFlags := 1041 }

def heap : Heap := #[]
def classes : Array Class := #[k0, k1, k2, k3, k4, k5, k6, k7, k8, k9]
def interned : List (Array UInt16 × Addr) := []
def slotsUsed : Nat := 0
def theMethod : MethodId := ⟨1, 1⟩
def args0 : Array Value := #[.int 4, .int 7, .int 8, .int 9, .int 0]
def aboutOver (below : List Frame) : State where
  vm := { classes := classes, interned := interned.toArray }
  heap := heap
  slotsUsed := slotsUsed
  threads := #[{ frames := .invoking theMethod args0 :: below }]
def below0 : List Frame := [.native { method := ⟨0, 0⟩, args := #[] }]
def about1 : State := aboutOver below0
def p0 : Program := .bare "" "" ""
def e0 : Env := launch0.env 0 0 0
theorem w_frames : about1.frames = Frame.invoking theMethod args0 :: below0 := rfl
set_option maxRecDepth 65536 in
theorem w_args : argsFit about1.vm theMethod args0 = true := by decide +kernel
set_option maxRecDepth 65536 in
theorem w_heap : heapFits about1 = true := by decide +kernel
set_option maxRecDepth 65536 in
theorem w_runnable : about1.curStatus? = some .runnable := by decide +kernel
set_option maxRecDepth 65536 in
theorem w_alone : about1.alone = true := by decide +kernel
set_option maxRecDepth 65536 in
theorem w_named : about1.methodNamed? x = some theMethod := by decide +kernel
set_option maxRecDepth 65536 in
theorem w_hears : about1.hears theMethod below0 = true := by decide +kernel
set_option maxRecDepth 65536 in
theorem w_ripe : about1.ripe theMethod args0 below0 = true := by decide +kernel
theorem w_running : about1.status = .running := rfl
set_option maxRecDepth 65536 in
theorem w_room : about1.hasRoom e0.platform room_1 = true :=
  launch0.hasRoom_least _ room_1 (by decide +kernel) (by decide +kernel) (by decide +kernel) (by decide +kernel) (by decide +kernel) (by decide +kernel)
theorem allAtoms_all (ts : List Jvm.Cond) (a : Array Jvm.Value) (st : Jvm.State) : (allAtoms ts).before a st = ts.all (fun c => c.before a st) := by
  induction ts with
  | nil => rfl
  | cons c t ih =>
    show (Jvm.Cond.and c (allAtoms t)).before a st = _
    rw [Jvm.Cond.before_and, ih, List.all_cons]
def words1 : List Jvm.Cond := Jvm.Cond.code x code maxLocals ret :: tables_1
/-- a 'code' word, met by the world's own term for the bytes: nothing is compared byte by byte -/
theorem code_word {y : MethodName} {bytes : ByteArray} {mx : Nat} {rt : Option FieldType} {a : Array Value} {s : State} {m : MethodId} {meth : Method} {c : Code} (h1 : s.methodNamed? y = some m) (h2 : s.vm.method? m = some meth) (h3 : meth.code = some c) (h4 : c.code = bytes)
    (h5 : (c.maxLocals == mx && c.exceptionTable.isEmpty && decide (c.maxStack ≤ mostOperands) && decide (meth.sig.returnType = rt) && !meth.locks && decide (parseMethodDescriptor y.desc = some meth.sig)) = true) : (Jvm.Cond.code y bytes mx rt).before a s = true := by
  simp only [Bool.and_eq_true, beq_iff_eq, Bool.not_eq_true', decide_eq_true_eq] at h5
  obtain ⟨⟨⟨⟨⟨g1, g2⟩, g3⟩, g4⟩, g5⟩, g6⟩ := h5
  simp [Cond.before, Cond.holds, Cond.value, h1, h2, h3, h4, g1, g2, g3, g4, g5, g6]
def isCode : Jvm.Cond → Bool
  | .code _ _ _ _ => true
  | _ => false
theorem all_split {L : List Jvm.Cond} {P : Jvm.Cond → Bool} (h1 : L.all (fun c => isCode c || P c) = true) (h2 : ∀ c ∈ L.filter isCode, P c = true) : L.all P = true := by
  refine List.all_eq_true.mpr fun c hc => ?_
  have h := List.all_eq_true.mp h1 c hc
  rcases Bool.eq_false_or_eq_true (isCode c) with hi | hi
  · exact h2 c (List.mem_filter.mpr ⟨hc, hi⟩)
  · simpa [hi] using h
set_option maxRecDepth 65536 in
theorem w_c0 : (Jvm.Cond.code x code maxLocals ret).before args0 about1 = true := code_word (m := ⟨1, 1⟩) (meth := k1m1) (c := k1c1) (by decide +kernel) rfl rfl rfl (by decide +kernel)
set_option maxRecDepth 65536 in
theorem w_c1 : (Jvm.Cond.code ({ cls := "com/example/guest_panes/guestpanes/Rect", name := "<init>", desc := "(IIII)V" } : Jvm.MethodName) prog_18_method_1_code (5 : Nat) (Option.none : Option Jvm.ClassFile.FieldType)).before args0 about1 = true := code_word (m := ⟨3, 0⟩) (meth := k3m0) (c := k3c0) (by decide +kernel) rfl rfl rfl (by decide +kernel)
set_option maxRecDepth 65536 in
theorem w_c2 : (Jvm.Cond.code ({ cls := "java/lang/Record", name := "<init>", desc := "()V" } : Jvm.MethodName) jdk_30_method_1_code (1 : Nat) (Option.none : Option Jvm.ClassFile.FieldType)).before args0 about1 = true := code_word (m := ⟨2, 0⟩) (meth := k2m0) (c := k2c0) (by decide +kernel) rfl rfl rfl (by decide +kernel)
set_option maxRecDepth 65536 in
theorem w_c3 : (Jvm.Cond.code ({ cls := "java/lang/Object", name := "<init>", desc := "()V" } : Jvm.MethodName) object_method_1_code (1 : Nat) (Option.none : Option Jvm.ClassFile.FieldType)).before args0 about1 = true := code_word (m := ⟨0, 0⟩) (meth := k0m0) (c := k0c0) (by decide +kernel) rfl rfl rfl (by decide +kernel)
set_option maxRecDepth 65536 in
theorem w_c4 : (Jvm.Cond.code ({ cls := "com/example/guest_panes/guestpanes/Rect", name := "isEmpty", desc := "()Z" } : Jvm.MethodName) prog_18_method_4_code (1 : Nat) (Option.some Jvm.ClassFile.FieldType.boolean)).before args0 about1 = true := code_word (m := ⟨3, 1⟩) (meth := k3m1) (c := k3c1) (by decide +kernel) rfl rfl rfl (by decide +kernel)
set_option maxRecDepth 65536 in
theorem w_c5 : (Jvm.Cond.code ({ cls := "com/example/guest_panes/guestpanes/Rect", name := "contains", desc := "(II)Z" } : Jvm.MethodName) prog_18_method_5_code (3 : Nat) (Option.some Jvm.ClassFile.FieldType.boolean)).before args0 about1 = true := code_word (m := ⟨3, 2⟩) (meth := k3m2) (c := k3c2) (by decide +kernel) rfl rfl rfl (by decide +kernel)
def codes1 : List Jvm.Cond := [Jvm.Cond.code x code maxLocals ret, Jvm.Cond.code ({ cls := "com/example/guest_panes/guestpanes/Rect", name := "<init>", desc := "(IIII)V" } : Jvm.MethodName) prog_18_method_1_code (5 : Nat) (Option.none : Option Jvm.ClassFile.FieldType), Jvm.Cond.code ({ cls := "java/lang/Record", name := "<init>", desc := "()V" } : Jvm.MethodName) jdk_30_method_1_code (1 : Nat) (Option.none : Option Jvm.ClassFile.FieldType), Jvm.Cond.code ({ cls := "java/lang/Object", name := "<init>", desc := "()V" } : Jvm.MethodName) object_method_1_code (1 : Nat) (Option.none : Option Jvm.ClassFile.FieldType), Jvm.Cond.code ({ cls := "com/example/guest_panes/guestpanes/Rect", name := "isEmpty", desc := "()Z" } : Jvm.MethodName) prog_18_method_4_code (1 : Nat) (Option.some Jvm.ClassFile.FieldType.boolean), Jvm.Cond.code ({ cls := "com/example/guest_panes/guestpanes/Rect", name := "contains", desc := "(II)Z" } : Jvm.MethodName) prog_18_method_5_code (3 : Nat) (Option.some Jvm.ClassFile.FieldType.boolean)]
set_option maxRecDepth 65536 in
theorem codes_eq : words1.filter isCode = codes1 := rfl
theorem w_codes : ∀ c ∈ words1.filter isCode, c.before args0 about1 = true := by
  rw [codes_eq]
  intro c hc
  simp only [codes1, List.mem_cons, List.not_mem_nil, or_false] at hc
  rcases hc with rfl | rfl | rfl | rfl | rfl | rfl
  · exact w_c0
  · exact w_c1
  · exact w_c2
  · exact w_c3
  · exact w_c4
  · exact w_c5
set_option maxRecDepth 65536 in
theorem w_t1 : (words1.take 24).all (fun c => isCode c || c.before args0 about1) = true := by decide +kernel
set_option maxRecDepth 65536 in
theorem w_t2 : (words1.drop 24).all (fun c => isCode c || c.before args0 about1) = true := by decide +kernel
theorem w_tables : (allAtoms (Jvm.Cond.code x code maxLocals ret :: tables_1)).before args0 about1 = true := by
  rw [allAtoms_all]
  show words1.all (fun c => c.before args0 about1) = true
  refine all_split ?_ w_codes
  rw [← List.take_append_drop 24 words1, List.all_append, w_t1, w_t2]
  rfl
set_option maxRecDepth 65536 in
theorem w_case : (Jvm.Cond.and given_1 narrow_1).before args0 about1 = true := by decide +kernel
theorem w_applies : (headSpec (Jvm.Cond.code x code maxLocals ret :: tables_1) room_1).applies x e0.platform about1 = true :=
  (Spec.applies_iff w_frames).mpr ⟨w_running, w_runnable, w_alone, w_named, w_hears, w_ripe, w_room, w_tables⟩
theorem atStart : AtStart classFile x code maxLocals ret World_1 tables_1 room_1 Calls_1 rest_1 Pre_1 launch0 p0 e0 about1 theMethod args0 below0 :=
  ⟨lists_1, trivial, launch0.admits_env _ _ _, launch0.least_env, fairChoices_fair.cas, fairChoices_fair.clock, w_frames, w_args, w_heap, w_applies, trivial, trivial, w_case⟩
end start1
theorem witness_1 : WitnessClaimed_1 := ⟨start1.p0, start1.e0, start1.about1, start1.theMethod, start1.args0, start1.below0, start1.atStart⟩
end Jvm.Pilot.@@N@@
