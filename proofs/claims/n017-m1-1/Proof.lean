import JvmDerived
import JvmDerived.Pilot.@@N@@Statement
import JvmDerived.Pilot.@@N@@Code
set_option linter.unusedVariables false
set_option linter.unusedSimpArgs false
namespace Jvm.OwnGo
open Jvm Jvm.ClassFile Sem Op Lib Jvm.Free Jvm.Stand Jvm.LawKit Jvm.RoadKit Bundle
/-- from A the invocation ends and returns what Q takes; what was written lies at n0 or above -/
def Go (p : Program) (e : Env) (below : List Frame) (s : State) (n0 k n : Nat) (Q : Option Value → Heap → Prop) (A : State) : Prop :=
  ∃ t o, Steps p.tables e below A t ∧ t.status = .running ∧ Ended t below o ∧ ∃ v L, o = .returned v ∧ (Q v t.heap ∧ Fr n0 L) ∧ FrameEnd s o t L k n
/-- what stays as it is through a walk -/
def Ctx (p : Program) (s : State) (m : MethodId) (meth : Method) (c : Code) (Z : State) (a0 : Array Value) (ws : List Jvm.Cond) (own nm : String) (bytes : ByteArray) (ml : Nat) (ret : Option FieldType) : Prop :=
  p.tables.exec = Jvm.exec ∧ Z.Warmed39 s.vm ∧ (∀ d ∈ ws, d.before a0 Z = true) ∧ s.vm.findClass own = some m.cls ∧ meth.name = nm ∧ c.code = bytes ∧ c.maxLocals = ml ∧ meth.sig.returnType = ret ∧ meth.locks = false
/-- where a walk stands -/
def St (p : Program) (l : Launch) (e : Env) (R : Room) (s : State) (m : MethodId) (args : Array Value) (below : List Frame) (meth : Method) (c : Code) (n0 : Nat) (T : State) (h : Heap) (cells slots : Nat) : Prop :=
  T.heap = h ∧ n0 ≤ s.heap.size ∧ ∃ locs, Fr n0 locs ∧ Stand p l e R s m args below meth c T locs cells slots
/-- an array: its elements, one by one -/
def AR (Z : State) (h : Heap) (a : Addr) (ty : FieldType) (vs : List Value) : Prop := ∃ c : Cell, Arr Z h a c ty ∧ c.slots = vs.toArray ∧ vs.length < 2 ^ 31
/-- a method's contract at one heap -/
def Con (l : Launch) (Z : State) (y : MethodName) (bytes : ByteArray) (ml : Nat) (ret : Option FieldType) (wx : List Jvm.Cond) (rm : Room) (n0 : Nat) (as : Array Value) (h0 : Heap) (Q : Option Value → Heap → Prop) : Prop :=
  MetFree l y (head1 (Jvm.Cond.code y bytes ml ret :: wx) rm) (fun a U => a = as ∧ Z.Warmed39 U.vm ∧ U.heap = h0) (fun _ _ _ _ _ => True) (fun _ U o U' => ∃ v L, o = .returned v ∧ (Q v U'.heap ∧ Fr n0 L) ∧ FrameEnd U o U' L rm.cells rm.slots)
section One
variable {p : Program} {l : Launch} {e : Env} {R : Room} {s : State} {m : MethodId} {args : Array Value} {below : List Frame} {meth : Method} {c : Code} {T : State} {h h' : Heap} {n0 cells slots k n : Nat} {Q : Option Value → Heap → Prop} {A B Z : State} {a0 : Array Value} {ws : List Jvm.Cond} {own nm : String} {bytes : ByteArray} {ml pc : Nat} {ret : Option FieldType} {Ls : Array Slot} {rest stk : List Value}
def ius (x y : Int32) : Int32 := (x.toUInt32 >>> (y &&& 31).toUInt32).toInt32
def lus (x : Int64) (y : Int32) : Int64 := (x.toUInt64 >>> (y &&& 0x3f).toInt64.toUInt64).toInt64
theorem tm0 (x d : Int) : x.tmod d = 0 ↔ x % d = 0 := ⟨fun h => Int.emod_eq_zero_of_dvd (Int.dvd_of_tmod_eq_zero h), fun h => Int.tmod_eq_zero_of_dvd (Int.dvd_of_emod_eq_zero h)⟩
theorem irr (x : Int32) : ¬ x < x := by rw [Int32.lt_iff_toInt_lt]; omega
theorem wd {ws : List Jvm.Cond} (i : Nat) {d : Jvm.Cond} (q : ws[i]? = some d) : d ∈ ws := List.mem_of_getElem? q
theorem Ctx.hx (C : Ctx p s m meth c Z a0 ws own nm bytes ml ret) : p.tables.exec = Jvm.exec := C.1
theorem Ctx.hZ (C : Ctx p s m meth c Z a0 ws own nm bytes ml ret) : Z.Warmed39 s.vm := C.2.1
theorem Ctx.w (C : Ctx p s m meth c Z a0 ws own nm bytes ml ret) {d : Jvm.Cond} (q : d ∈ ws) : d.before a0 Z = true := C.2.2.1 d q
theorem Ctx.hown (C : Ctx p s m meth c Z a0 ws own nm bytes ml ret) : s.vm.findClass own = some m.cls := C.2.2.2.1
theorem Ctx.hnm (C : Ctx p s m meth c Z a0 ws own nm bytes ml ret) : meth.name = nm := C.2.2.2.2.1
theorem Ctx.hby (C : Ctx p s m meth c Z a0 ws own nm bytes ml ret) : c.code = bytes := C.2.2.2.2.2.1
theorem Ctx.hml (C : Ctx p s m meth c Z a0 ws own nm bytes ml ret) : c.maxLocals = ml := C.2.2.2.2.2.2.1
theorem Ctx.hret (C : Ctx p s m meth c Z a0 ws own nm bytes ml ret) : meth.sig.returnType = ret := C.2.2.2.2.2.2.2.1
theorem Ctx.hlk (C : Ctx p s m meth c Z a0 ws own nm bytes ml ret) : meth.locks = false := C.2.2.2.2.2.2.2.2
theorem St.here (X : St p l e R s m args below meth c n0 T h cells slots) : At T m c below := by obtain ⟨-, -, _, -, X⟩ := X; exact X.here
theorem St.size (X : St p l e R s m args below meth c n0 T h cells slots) : n0 ≤ h.size := by
  obtain ⟨rfl, hz, _, -, X⟩ := X
  exact Nat.le_trans hz X.same.2.1
theorem St.mono (X : St p l e R s m args below meth c n0 T h cells slots) {cells' slots' : Nat} (h1 : cells ≤ cells') (h2 : slots ≤ slots') : St p l e R s m args below meth c n0 T h cells' slots' := by
  obtain ⟨e0, hz, locs, N, X⟩ := X
  exact ⟨e0, hz, locs, N, { X with same := X.same.mono h1 h2 }⟩
theorem Go.st (q : ∀ t, Steps p.tables e below B t → Steps p.tables e below A t) (g : Go p e below s n0 k n Q B) : Go p e below s n0 k n Q A := by
  obtain ⟨t, o, h1, r⟩ := g
  exact ⟨t, o, q t h1, r⟩
theorem Go.tr (q : Steps p.tables e below A B) (g : Go p e below s n0 k n Q B) : Go p e below s n0 k n Q A := Go.st (fun _ r => q.trans r) g
theorem Con.mk {y : MethodName} {wx : List Jvm.Cond} {rm : Room} {as : Array Value} {h0 : Heap} (hp : plainFor y = true) (hw : ∀ d ∈ ws, d.before a0 Z = true) (hz : n0 ≤ h0.size)
    (H : ∀ (p : Program) (e : Env) (s : State) (m : MethodId) (below : List Frame) (meth : Method) (c : Code) (T : State), Ctx p s m meth c Z a0 ws y.cls y.name bytes ml ret → St p l e rm s m as below meth c n0 T h0 0 0 → Go p e below s n0 rm.cells rm.slots Q (T.setTop (entryFrame m as ml))) : Con l Z y bytes ml ret wx rm n0 as h0 Q := by
  refine MetFree.of_bodySF hp hisR ?_
  intro p e s m args below meth c s₁ Bd hml hP hK
  obtain ⟨rfl, hZ, hh⟩ := hP
  have hE : s₁.heap = h0 := by rw [← hh, Bd.state]; rfl
  exact H p e s m below meth c s₁ ⟨Bd.exec, hZ, hw, findClass_of_methodNamed Bd.named, (name_of_methodNamed Bd.named Bd.method).1, Bd.bytes, hml, Bd.returns, BodyLoose.notSynchronized Bd⟩ ⟨hE, by rw [hh]; exact hz, [], Fr.nil n0, Stand.of_body Bd⟩
theorem Go.retAny (C : Ctx p s m meth c Z a0 ws own nm bytes ml ret) (X : St p l e R s m args below meth c n0 T h cells slots) {w : Value} {t : FieldType} {i : Instr} (hret : ret = some t) (hn : narrow t w = w)
    (hi : (i = .ireturn ∧ (t = .int ∨ t = .boolean ∨ t = .byte ∨ t = .char ∨ t = .short) ∧ ∃ z, w = .int z) ∨ (i = .lreturn ∧ t = .long ∧ ∃ z, w = .long z) ∨ (i = .dreturn ∧ t = .double ∧ ∃ z, w = .double z) ∨ (i = .freturn ∧ t = .float ∧ ∃ z, w = .float z) ∨ (i = .areturn ∧ t.isReference = true ∧ w.isRef = true))
    (hd : decode bytes pc = .ok (i, 1)) (hQ : Q (some w) h) (hk : cells ≤ k) (hs : slots ≤ n) : Go p e below s n0 k n Q (T.setTop (mkF m pc Ls (w :: rest))) := by
  obtain ⟨rfl, hz, locs, N, X⟩ := X
  obtain ⟨fs, hr, hrun, hended, hW, hsame⟩ := X.leave (v := some w) (fun q => by rw [C.hret, hret] at q; cases q) C.hlk
  exact ⟨_, _, retOut X C.hx (C.hret.trans hret) hn hi (hb C.hby hd) hr, hrun, hended, _, _, rfl, ⟨hQ, N⟩, ⟨_, rfl⟩, hW, hsame.mono hk hs⟩
theorem Go.retI (C : Ctx p s m meth c Z a0 ws own nm bytes ml (some .int)) (X : St p l e R s m args below meth c n0 T h cells slots) {z : Int32} (hd : decode bytes pc = .ok (.ireturn, 1)) (hQ : Q (some (.int z)) h) (hk : cells ≤ k) (hs : slots ≤ n) : Go p e below s n0 k n Q (T.setTop (mkF m pc Ls (.int z :: rest))) :=
  Go.retAny C X rfl rfl (Or.inl ⟨rfl, Or.inl rfl, _, rfl⟩) hd hQ hk hs
theorem Go.retZ (C : Ctx p s m meth c Z a0 ws own nm bytes ml (some .boolean)) (X : St p l e R s m args below meth c n0 T h cells slots) {z : Int32} (hz : z = 0 ∨ z = 1) (hd : decode bytes pc = .ok (.ireturn, 1)) (hQ : Q (some (.int z)) h) (hk : cells ≤ k) (hs : slots ≤ n) : Go p e below s n0 k n Q (T.setTop (mkF m pc Ls (.int z :: rest))) :=
  Go.retAny C X rfl (by rcases hz with rfl | rfl <;> rfl) (Or.inl ⟨rfl, Or.inr (Or.inl rfl), _, rfl⟩) hd hQ hk hs
theorem Go.retJ (C : Ctx p s m meth c Z a0 ws own nm bytes ml (some .long)) (X : St p l e R s m args below meth c n0 T h cells slots) {z : Int64} (hd : decode bytes pc = .ok (.lreturn, 1)) (hQ : Q (some (.long z)) h) (hk : cells ≤ k) (hs : slots ≤ n) : Go p e below s n0 k n Q (T.setTop (mkF m pc Ls (.long z :: rest))) :=
  Go.retAny C X rfl rfl (Or.inr (Or.inl ⟨rfl, rfl, _, rfl⟩)) hd hQ hk hs
theorem Go.retA {t : FieldType} (C : Ctx p s m meth c Z a0 ws own nm bytes ml (some t)) (X : St p l e R s m args below meth c n0 T h cells slots) {v : Value} (ht : t.isReference = true) (hv : v.isRef = true) (hd : decode bytes pc = .ok (.areturn, 1)) (hQ : Q (some v) h) (hk : cells ≤ k) (hs : slots ≤ n) : Go p e below s n0 k n Q (T.setTop (mkF m pc Ls (v :: rest))) :=
  Go.retAny C X rfl (by cases t <;> cases v <;> first | rfl | (simp [FieldType.isReference] at ht; done) | (simp [Value.isRef] at hv; done)) (Or.inr (Or.inr (Or.inr (Or.inr ⟨rfl, ht, hv⟩)))) hd hQ hk hs
theorem Go.retV (C : Ctx p s m meth c Z a0 ws own nm bytes ml none) (X : St p l e R s m args below meth c n0 T h cells slots) (hd : decode bytes pc = .ok (.return_, 1)) (hQ : Q none h) (hk : cells ≤ k) (hs : slots ≤ n) : Go p e below s n0 k n Q (T.setTop (mkF m pc Ls [])) := by
  obtain ⟨rfl, hz, locs, N, X⟩ := X
  obtain ⟨fs, hr, hrun, hended, hW, hsame⟩ := X.leave (v := none) (fun _ => rfl) C.hlk
  exact ⟨_, _, X.returnOut C.hx C.hret (hb C.hby hd) hr, hrun, hended, _, _, rfl, ⟨hQ, N⟩, ⟨_, rfl⟩, hW, hsame.mono hk hs⟩
theorem Go.if_eq (C : Ctx p s m meth c Z a0 ws own nm bytes ml ret) (X : St p l e R s m args below meth c n0 T h cells slots) {x : Int32} {o : Int} {pc' : Nat} (hd : decode bytes pc = .ok (.ifCond .eq o, 3)) (ho : 0 ≤ (pc : Int) + o) (hp : ((pc : Int) + o).toNat = pc') (Y : x = 0 → Go p e below s n0 k n Q (T.setTop (mkF m pc' Ls rest))) (N : ¬ x = 0 → Go p e below s n0 k n Q (T.setTop (mkF m (pc + 3) Ls rest))) : Go p e below s n0 k n Q (T.setTop (mkF m pc Ls (.int x :: rest))) := by
  by_cases q : x = 0
  · exact Go.st (fun _ => XS.ifYes X.here C.hx rfl rfl (hb C.hby hd) rfl (by simpa [ifCond.holds] using q) ho hp) (Y q)
  · exact Go.st (fun _ => XS.ifNo X.here C.hx rfl (hb C.hby hd) rfl (by simpa [ifCond.holds] using q) ) (N q)
theorem Go.icmp_eq (C : Ctx p s m meth c Z a0 ws own nm bytes ml ret) (X : St p l e R s m args below meth c n0 T h cells slots) {x y : Int32} {o : Int} {pc' : Nat} (hd : decode bytes pc = .ok (.if_icmp .eq o, 3)) (ho : 0 ≤ (pc : Int) + o) (hp : ((pc : Int) + o).toNat = pc') (Y : x = y → Go p e below s n0 k n Q (T.setTop (mkF m pc' Ls rest))) (N : ¬ x = y → Go p e below s n0 k n Q (T.setTop (mkF m (pc + 3) Ls rest))) : Go p e below s n0 k n Q (T.setTop (mkF m pc Ls (.int y :: .int x :: rest))) := by
  by_cases q : x = y
  · exact Go.st (fun _ => XS.icmpYes X.here C.hx rfl rfl (hb C.hby hd) rfl (by simpa [if_icmp.holds] using q) ho hp) (Y q)
  · exact Go.st (fun _ => XS.icmpNo X.here C.hx rfl (hb C.hby hd) rfl (by simpa [if_icmp.holds] using q) ) (N q)
theorem Go.if_ne (C : Ctx p s m meth c Z a0 ws own nm bytes ml ret) (X : St p l e R s m args below meth c n0 T h cells slots) {x : Int32} {o : Int} {pc' : Nat} (hd : decode bytes pc = .ok (.ifCond .ne o, 3)) (ho : 0 ≤ (pc : Int) + o) (hp : ((pc : Int) + o).toNat = pc') (Y : ¬ x = 0 → Go p e below s n0 k n Q (T.setTop (mkF m pc' Ls rest))) (N : x = 0 → Go p e below s n0 k n Q (T.setTop (mkF m (pc + 3) Ls rest))) : Go p e below s n0 k n Q (T.setTop (mkF m pc Ls (.int x :: rest))) := by
  by_cases q : x = 0
  · exact Go.st (fun _ => XS.ifNo X.here C.hx rfl (hb C.hby hd) rfl (by simpa [ifCond.holds] using q) ) (N q)
  · exact Go.st (fun _ => XS.ifYes X.here C.hx rfl rfl (hb C.hby hd) rfl (by simpa [ifCond.holds] using q) ho hp) (Y q)
theorem Go.icmp_ne (C : Ctx p s m meth c Z a0 ws own nm bytes ml ret) (X : St p l e R s m args below meth c n0 T h cells slots) {x y : Int32} {o : Int} {pc' : Nat} (hd : decode bytes pc = .ok (.if_icmp .ne o, 3)) (ho : 0 ≤ (pc : Int) + o) (hp : ((pc : Int) + o).toNat = pc') (Y : ¬ x = y → Go p e below s n0 k n Q (T.setTop (mkF m pc' Ls rest))) (N : x = y → Go p e below s n0 k n Q (T.setTop (mkF m (pc + 3) Ls rest))) : Go p e below s n0 k n Q (T.setTop (mkF m pc Ls (.int y :: .int x :: rest))) := by
  by_cases q : x = y
  · exact Go.st (fun _ => XS.icmpNo X.here C.hx rfl (hb C.hby hd) rfl (by simpa [if_icmp.holds] using q) ) (N q)
  · exact Go.st (fun _ => XS.icmpYes X.here C.hx rfl rfl (hb C.hby hd) rfl (by simpa [if_icmp.holds] using q) ho hp) (Y q)
theorem Go.if_lt (C : Ctx p s m meth c Z a0 ws own nm bytes ml ret) (X : St p l e R s m args below meth c n0 T h cells slots) {x : Int32} {o : Int} {pc' : Nat} (hd : decode bytes pc = .ok (.ifCond .lt o, 3)) (ho : 0 ≤ (pc : Int) + o) (hp : ((pc : Int) + o).toNat = pc') (Y : x < 0 → Go p e below s n0 k n Q (T.setTop (mkF m pc' Ls rest))) (N : ¬ x < 0 → Go p e below s n0 k n Q (T.setTop (mkF m (pc + 3) Ls rest))) : Go p e below s n0 k n Q (T.setTop (mkF m pc Ls (.int x :: rest))) := by
  by_cases q : x < 0
  · exact Go.st (fun _ => XS.ifYes X.here C.hx rfl rfl (hb C.hby hd) rfl (by simpa [ifCond.holds] using q) ho hp) (Y q)
  · exact Go.st (fun _ => XS.ifNo X.here C.hx rfl (hb C.hby hd) rfl (by simpa [ifCond.holds] using q) ) (N q)
theorem Go.icmp_lt (C : Ctx p s m meth c Z a0 ws own nm bytes ml ret) (X : St p l e R s m args below meth c n0 T h cells slots) {x y : Int32} {o : Int} {pc' : Nat} (hd : decode bytes pc = .ok (.if_icmp .lt o, 3)) (ho : 0 ≤ (pc : Int) + o) (hp : ((pc : Int) + o).toNat = pc') (Y : x < y → Go p e below s n0 k n Q (T.setTop (mkF m pc' Ls rest))) (N : ¬ x < y → Go p e below s n0 k n Q (T.setTop (mkF m (pc + 3) Ls rest))) : Go p e below s n0 k n Q (T.setTop (mkF m pc Ls (.int y :: .int x :: rest))) := by
  by_cases q : x < y
  · exact Go.st (fun _ => XS.icmpYes X.here C.hx rfl rfl (hb C.hby hd) rfl (by simpa [if_icmp.holds] using q) ho hp) (Y q)
  · exact Go.st (fun _ => XS.icmpNo X.here C.hx rfl (hb C.hby hd) rfl (by simpa [if_icmp.holds] using q) ) (N q)
theorem Go.if_ge (C : Ctx p s m meth c Z a0 ws own nm bytes ml ret) (X : St p l e R s m args below meth c n0 T h cells slots) {x : Int32} {o : Int} {pc' : Nat} (hd : decode bytes pc = .ok (.ifCond .ge o, 3)) (ho : 0 ≤ (pc : Int) + o) (hp : ((pc : Int) + o).toNat = pc') (Y : ¬ x < 0 → Go p e below s n0 k n Q (T.setTop (mkF m pc' Ls rest))) (N : x < 0 → Go p e below s n0 k n Q (T.setTop (mkF m (pc + 3) Ls rest))) : Go p e below s n0 k n Q (T.setTop (mkF m pc Ls (.int x :: rest))) := by
  by_cases q : x < 0
  · exact Go.st (fun _ => XS.ifNo X.here C.hx rfl (hb C.hby hd) rfl (by simpa [ifCond.holds, Int32.not_lt] using q) ) (N q)
  · exact Go.st (fun _ => XS.ifYes X.here C.hx rfl rfl (hb C.hby hd) rfl (by simpa [ifCond.holds, Int32.not_lt] using q) ho hp) (Y q)
theorem Go.icmp_ge (C : Ctx p s m meth c Z a0 ws own nm bytes ml ret) (X : St p l e R s m args below meth c n0 T h cells slots) {x y : Int32} {o : Int} {pc' : Nat} (hd : decode bytes pc = .ok (.if_icmp .ge o, 3)) (ho : 0 ≤ (pc : Int) + o) (hp : ((pc : Int) + o).toNat = pc') (Y : ¬ x < y → Go p e below s n0 k n Q (T.setTop (mkF m pc' Ls rest))) (N : x < y → Go p e below s n0 k n Q (T.setTop (mkF m (pc + 3) Ls rest))) : Go p e below s n0 k n Q (T.setTop (mkF m pc Ls (.int y :: .int x :: rest))) := by
  by_cases q : x < y
  · exact Go.st (fun _ => XS.icmpNo X.here C.hx rfl (hb C.hby hd) rfl (by simpa [if_icmp.holds, Int32.not_lt] using q) ) (N q)
  · exact Go.st (fun _ => XS.icmpYes X.here C.hx rfl rfl (hb C.hby hd) rfl (by simpa [if_icmp.holds, Int32.not_lt] using q) ho hp) (Y q)
theorem Go.if_gt (C : Ctx p s m meth c Z a0 ws own nm bytes ml ret) (X : St p l e R s m args below meth c n0 T h cells slots) {x : Int32} {o : Int} {pc' : Nat} (hd : decode bytes pc = .ok (.ifCond .gt o, 3)) (ho : 0 ≤ (pc : Int) + o) (hp : ((pc : Int) + o).toNat = pc') (Y : 0 < x → Go p e below s n0 k n Q (T.setTop (mkF m pc' Ls rest))) (N : ¬ 0 < x → Go p e below s n0 k n Q (T.setTop (mkF m (pc + 3) Ls rest))) : Go p e below s n0 k n Q (T.setTop (mkF m pc Ls (.int x :: rest))) := by
  by_cases q : 0 < x
  · exact Go.st (fun _ => XS.ifYes X.here C.hx rfl rfl (hb C.hby hd) rfl (by simpa [ifCond.holds] using q) ho hp) (Y q)
  · exact Go.st (fun _ => XS.ifNo X.here C.hx rfl (hb C.hby hd) rfl (by simpa [ifCond.holds] using q) ) (N q)
theorem Go.icmp_gt (C : Ctx p s m meth c Z a0 ws own nm bytes ml ret) (X : St p l e R s m args below meth c n0 T h cells slots) {x y : Int32} {o : Int} {pc' : Nat} (hd : decode bytes pc = .ok (.if_icmp .gt o, 3)) (ho : 0 ≤ (pc : Int) + o) (hp : ((pc : Int) + o).toNat = pc') (Y : y < x → Go p e below s n0 k n Q (T.setTop (mkF m pc' Ls rest))) (N : ¬ y < x → Go p e below s n0 k n Q (T.setTop (mkF m (pc + 3) Ls rest))) : Go p e below s n0 k n Q (T.setTop (mkF m pc Ls (.int y :: .int x :: rest))) := by
  by_cases q : y < x
  · exact Go.st (fun _ => XS.icmpYes X.here C.hx rfl rfl (hb C.hby hd) rfl (by simpa [if_icmp.holds] using q) ho hp) (Y q)
  · exact Go.st (fun _ => XS.icmpNo X.here C.hx rfl (hb C.hby hd) rfl (by simpa [if_icmp.holds] using q) ) (N q)
theorem Go.if_le (C : Ctx p s m meth c Z a0 ws own nm bytes ml ret) (X : St p l e R s m args below meth c n0 T h cells slots) {x : Int32} {o : Int} {pc' : Nat} (hd : decode bytes pc = .ok (.ifCond .le o, 3)) (ho : 0 ≤ (pc : Int) + o) (hp : ((pc : Int) + o).toNat = pc') (Y : ¬ 0 < x → Go p e below s n0 k n Q (T.setTop (mkF m pc' Ls rest))) (N : 0 < x → Go p e below s n0 k n Q (T.setTop (mkF m (pc + 3) Ls rest))) : Go p e below s n0 k n Q (T.setTop (mkF m pc Ls (.int x :: rest))) := by
  by_cases q : 0 < x
  · exact Go.st (fun _ => XS.ifNo X.here C.hx rfl (hb C.hby hd) rfl (by simpa [ifCond.holds, Int32.not_lt] using q) ) (N q)
  · exact Go.st (fun _ => XS.ifYes X.here C.hx rfl rfl (hb C.hby hd) rfl (by simpa [ifCond.holds, Int32.not_lt] using q) ho hp) (Y q)
theorem Go.icmp_le (C : Ctx p s m meth c Z a0 ws own nm bytes ml ret) (X : St p l e R s m args below meth c n0 T h cells slots) {x y : Int32} {o : Int} {pc' : Nat} (hd : decode bytes pc = .ok (.if_icmp .le o, 3)) (ho : 0 ≤ (pc : Int) + o) (hp : ((pc : Int) + o).toNat = pc') (Y : ¬ y < x → Go p e below s n0 k n Q (T.setTop (mkF m pc' Ls rest))) (N : y < x → Go p e below s n0 k n Q (T.setTop (mkF m (pc + 3) Ls rest))) : Go p e below s n0 k n Q (T.setTop (mkF m pc Ls (.int y :: .int x :: rest))) := by
  by_cases q : y < x
  · exact Go.st (fun _ => XS.icmpNo X.here C.hx rfl (hb C.hby hd) rfl (by simpa [if_icmp.holds, Int32.not_lt] using q) ) (N q)
  · exact Go.st (fun _ => XS.icmpYes X.here C.hx rfl rfl (hb C.hby hd) rfl (by simpa [if_icmp.holds, Int32.not_lt] using q) ho hp) (Y q)
theorem Go.lif_eq (C : Ctx p s m meth c Z a0 ws own nm bytes ml ret) (X : St p l e R s m args below meth c n0 T h cells slots) {x y : Int64} {o : Int} {pc' : Nat} (hd : decode bytes pc = .ok (.ifCond .eq o, 3)) (ho : 0 ≤ (pc : Int) + o) (hp : ((pc : Int) + o).toNat = pc') (Y : x = y → Go p e below s n0 k n Q (T.setTop (mkF m pc' Ls rest))) (N : ¬ x = y → Go p e below s n0 k n Q (T.setTop (mkF m (pc + 3) Ls rest))) : Go p e below s n0 k n Q (T.setTop (mkF m pc Ls (.int (lcmpW x y) :: rest))) := by
  have q := lc_eq x y
  rw [← lcW] at q
  exact Go.if_eq C X hd ho hp (fun r => Y (q.mp r)) (fun r => N (fun u => r (q.mpr u)))
theorem Go.lif_ne (C : Ctx p s m meth c Z a0 ws own nm bytes ml ret) (X : St p l e R s m args below meth c n0 T h cells slots) {x y : Int64} {o : Int} {pc' : Nat} (hd : decode bytes pc = .ok (.ifCond .ne o, 3)) (ho : 0 ≤ (pc : Int) + o) (hp : ((pc : Int) + o).toNat = pc') (Y : ¬ x = y → Go p e below s n0 k n Q (T.setTop (mkF m pc' Ls rest))) (N : x = y → Go p e below s n0 k n Q (T.setTop (mkF m (pc + 3) Ls rest))) : Go p e below s n0 k n Q (T.setTop (mkF m pc Ls (.int (lcmpW x y) :: rest))) := by
  have q := lc_eq x y
  rw [← lcW] at q
  exact Go.if_ne C X hd ho hp (fun r => Y (fun u => r (q.mpr u))) (fun r => N (q.mp r))
theorem Go.lif_lt (C : Ctx p s m meth c Z a0 ws own nm bytes ml ret) (X : St p l e R s m args below meth c n0 T h cells slots) {x y : Int64} {o : Int} {pc' : Nat} (hd : decode bytes pc = .ok (.ifCond .lt o, 3)) (ho : 0 ≤ (pc : Int) + o) (hp : ((pc : Int) + o).toNat = pc') (Y : x < y → Go p e below s n0 k n Q (T.setTop (mkF m pc' Ls rest))) (N : ¬ x < y → Go p e below s n0 k n Q (T.setTop (mkF m (pc + 3) Ls rest))) : Go p e below s n0 k n Q (T.setTop (mkF m pc Ls (.int (lcmpW x y) :: rest))) := by
  have q := lc_lt x y
  rw [← lcW] at q
  exact Go.if_lt C X hd ho hp (fun r => Y (q.mp r)) (fun r => N (fun u => r (q.mpr u)))
theorem Go.lif_ge (C : Ctx p s m meth c Z a0 ws own nm bytes ml ret) (X : St p l e R s m args below meth c n0 T h cells slots) {x y : Int64} {o : Int} {pc' : Nat} (hd : decode bytes pc = .ok (.ifCond .ge o, 3)) (ho : 0 ≤ (pc : Int) + o) (hp : ((pc : Int) + o).toNat = pc') (Y : ¬ x < y → Go p e below s n0 k n Q (T.setTop (mkF m pc' Ls rest))) (N : x < y → Go p e below s n0 k n Q (T.setTop (mkF m (pc + 3) Ls rest))) : Go p e below s n0 k n Q (T.setTop (mkF m pc Ls (.int (lcmpW x y) :: rest))) := by
  have q := lc_lt x y
  rw [← lcW] at q
  exact Go.if_ge C X hd ho hp (fun r => Y (fun u => r (q.mpr u))) (fun r => N (q.mp r))
theorem Go.lif_gt (C : Ctx p s m meth c Z a0 ws own nm bytes ml ret) (X : St p l e R s m args below meth c n0 T h cells slots) {x y : Int64} {o : Int} {pc' : Nat} (hd : decode bytes pc = .ok (.ifCond .gt o, 3)) (ho : 0 ≤ (pc : Int) + o) (hp : ((pc : Int) + o).toNat = pc') (Y : y < x → Go p e below s n0 k n Q (T.setTop (mkF m pc' Ls rest))) (N : ¬ y < x → Go p e below s n0 k n Q (T.setTop (mkF m (pc + 3) Ls rest))) : Go p e below s n0 k n Q (T.setTop (mkF m pc Ls (.int (lcmpW x y) :: rest))) := by
  have q := lc_gt x y
  rw [← lcW] at q
  exact Go.if_gt C X hd ho hp (fun r => Y (q.mp r)) (fun r => N (fun u => r (q.mpr u)))
theorem Go.lif_le (C : Ctx p s m meth c Z a0 ws own nm bytes ml ret) (X : St p l e R s m args below meth c n0 T h cells slots) {x y : Int64} {o : Int} {pc' : Nat} (hd : decode bytes pc = .ok (.ifCond .le o, 3)) (ho : 0 ≤ (pc : Int) + o) (hp : ((pc : Int) + o).toNat = pc') (Y : ¬ y < x → Go p e below s n0 k n Q (T.setTop (mkF m pc' Ls rest))) (N : y < x → Go p e below s n0 k n Q (T.setTop (mkF m (pc + 3) Ls rest))) : Go p e below s n0 k n Q (T.setTop (mkF m pc Ls (.int (lcmpW x y) :: rest))) := by
  have q := lc_gt x y
  rw [← lcW] at q
  exact Go.if_le C X hd ho hp (fun r => Y (fun u => r (q.mpr u))) (fun r => N (q.mp r))
theorem Go.acmp_eq (C : Ctx p s m meth c Z a0 ws own nm bytes ml ret) (X : St p l e R s m args below meth c n0 T h cells slots) {x y : Value} (h1 : x.isRef = true) (h2 : y.isRef = true) {o : Int} {pc' : Nat} (hd : decode bytes pc = .ok (.if_acmp .eq o, 3)) (ho : 0 ≤ (pc : Int) + o) (hp : ((pc : Int) + o).toNat = pc') (Y : x = y → Go p e below s n0 k n Q (T.setTop (mkF m pc' Ls rest))) (N : ¬ x = y → Go p e below s n0 k n Q (T.setTop (mkF m (pc + 3) Ls rest))) : Go p e below s n0 k n Q (T.setTop (mkF m pc Ls (y :: x :: rest))) := by
  obtain ⟨-, -, _, -, X⟩ := X
  by_cases q : x = y
  · exact Go.st (fun _ => Jvm.RoadKit.acmp (g := mkF m pc Ls (y :: x :: rest)) X C.hx rfl h1 h2 (same := true) rfl (hb C.hby hd) rfl (decide_eq_true q) ho (by rw [← hp]; rfl)) (Y q)
  · exact Go.st (fun _ => Jvm.RoadKit.acmp (g := mkF m pc Ls (y :: x :: rest)) X C.hx rfl h1 h2 (same := false) rfl (hb C.hby hd) rfl (decide_eq_false q) ho (by rfl)) (N q)
theorem Go.acmp_ne (C : Ctx p s m meth c Z a0 ws own nm bytes ml ret) (X : St p l e R s m args below meth c n0 T h cells slots) {x y : Value} (h1 : x.isRef = true) (h2 : y.isRef = true) {o : Int} {pc' : Nat} (hd : decode bytes pc = .ok (.if_acmp .ne o, 3)) (ho : 0 ≤ (pc : Int) + o) (hp : ((pc : Int) + o).toNat = pc') (Y : ¬ x = y → Go p e below s n0 k n Q (T.setTop (mkF m pc' Ls rest))) (N : x = y → Go p e below s n0 k n Q (T.setTop (mkF m (pc + 3) Ls rest))) : Go p e below s n0 k n Q (T.setTop (mkF m pc Ls (y :: x :: rest))) := by
  obtain ⟨-, -, _, -, X⟩ := X
  by_cases q : x = y
  · exact Go.st (fun _ => Jvm.RoadKit.acmp (g := mkF m pc Ls (y :: x :: rest)) X C.hx rfl h1 h2 (same := true) rfl (hb C.hby hd) rfl (decide_eq_true q) ho (by rfl)) (N q)
  · exact Go.st (fun _ => Jvm.RoadKit.acmp (g := mkF m pc Ls (y :: x :: rest)) X C.hx rfl h1 h2 (same := false) rfl (hb C.hby hd) rfl (decide_eq_false q) ho (by rw [← hp]; rfl)) (Y q)
theorem Go.getF (C : Ctx p s m meth c Z a0 ws own nm bytes ml ret) (X : St p l e R s m args below meth c n0 T h cells slots) {O n1 d : String} {i : Nat} {a : Addr} {v : Value} (w : Jvm.Cond.fieldLink own i O n1 d ∈ ws) (F : Fld Z h a O n1 d v) (hd : decode bytes pc = .ok (.getfield i, 3)) (K : ∀ T', St p l e R s m args below meth c n0 T' h cells slots → Go p e below s n0 k n Q (T'.setTop (mkF m (pc + 3) Ls (v :: rest)))) : Go p e below s n0 k n Q (T.setTop (mkF m pc Ls (.ref a :: rest))) := by
  obtain ⟨e0, hz, locs, N, X⟩ := X
  obtain ⟨T', X', e', st⟩ := Jvm.RoadKit.getF X C.hx C.hZ C.hown (host := "") (Or.inl (C.w w)) Via.refl e0 F (g := mkF m pc Ls (.ref a :: rest)) rfl rfl (hb C.hby hd)
  exact Go.st st (K T' ⟨e', hz, locs, N, X'⟩)
theorem Go.getS (C : Ctx p s m meth c Z a0 ws own nm bytes ml ret) (X : St p l e R s m args below meth c n0 T h cells slots) {O n1 d : String} {i : Nat} {v : Value} (w : Jvm.Cond.fieldLink own i O n1 d ∈ ws) (F : Sta Z h O n1 d v) (hd : decode bytes pc = .ok (.getstatic i, 3)) (K : ∀ T', St p l e R s m args below meth c n0 T' h cells slots → Go p e below s n0 k n Q (T'.setTop (mkF m (pc + 3) Ls (v :: stk)))) : Go p e below s n0 k n Q (T.setTop (mkF m pc Ls stk)) := by
  obtain ⟨e0, hz, locs, N, X⟩ := X
  obtain ⟨T', X', e', st⟩ := Jvm.RoadKit.getS2 X C.hx C.hZ C.hown (host := "") (Or.inl (C.w w)) Via.refl e0 F (g := mkF m pc Ls stk) rfl (hb C.hby hd)
  exact Go.st st (K T' ⟨e', hz, locs, N, X'⟩)
theorem Go.putF (C : Ctx p s m meth c Z a0 ws own nm bytes ml ret) (X : St p l e R s m args below meth c n0 T h cells slots) {O n1 d C1 : String} {i kk : Nat} {ty : FieldType} {a : Addr} {v old : Value} (w : Jvm.Cond.fieldLink own i O n1 d ∈ ws) (F : Fld Z h a O n1 d old) (E : Exa Z h a C1) (L : Jvm.Cond.lays C1 O n1 d ∈ ws ∨ (Jvm.Cond.laysFinal C1 O n1 d ∈ ws ∧ own = O ∧ nm = "<init>")) (wi : Jvm.Cond.instantiable C1 kk ∈ ws)
    (hty : parseFieldDescriptor d = some ty) (hn : narrow ty v = v) (hf : fits ty v = true) (ha : n0 ≤ a) (hd : decode bytes pc = .ok (.putfield i, 3)) (K : ∀ T' h', St p l e R s m args below meth c n0 T' h' cells slots → Wr h h' a (Jvm.RoadKit.slotOf Z O n1 d) v → Fld Z h' a O n1 d v → Go p e below s n0 k n Q (T'.setTop (mkF m (pc + 3) Ls rest))) : Go p e below s n0 k n Q (T.setTop (mkF m pc Ls (v :: .ref a :: rest))) := by
  obtain ⟨e0, hz, locs, N, X⟩ := X
  obtain ⟨T', h', X', e', W, st⟩ := Jvm.RoadKit.putF X C.hx C.hZ C.hown (host := "") (Or.inl (C.w w)) Via.refl e0 F E (L.imp (fun q => C.w q) (fun q => ⟨C.w q.1, q.2.1, C.hnm.trans q.2.2⟩)) (C.w wi) hty hn hf (g := mkF m pc Ls (v :: .ref a :: rest)) rfl rfl (hb C.hby hd)
  exact Go.st st (K T' h' ⟨e', hz, _, Fr.snoc X' N ha, X'⟩ W (F.same W))
theorem Go.newO (C : Ctx p s m meth c Z a0 ws own nm bytes ml ret) (X : St p l e R s m args below meth c n0 T h cells slots) {C1 : String} {i kk : Nat} (w : Jvm.Cond.classLink own i C1 ∈ ws) (wi : Jvm.Cond.instantiable C1 kk ∈ ws) (wz : Jvm.Cond.initialized C1 ∈ ws) (hd : decode bytes pc = .ok (.new i, 3)) (hc : cells + 1 ≤ R.cells) (hl : slots + kk ≤ R.slots)
    (K : ∀ T' h' b, h.size = b → n0 ≤ b → St p l e R s m args below meth c n0 T' h' (cells + 1) (slots + kk) → Ext h h' → Exa Z h' b C1 → (∀ {O n1 d : String} {ty : FieldType}, (Jvm.Cond.lays C1 O n1 d ∈ ws ∨ Jvm.Cond.laysFinal C1 O n1 d ∈ ws) → parseFieldDescriptor d = some ty → Fld Z h' b O n1 d (defaultValue ty)) → Go p e below s n0 k n Q (T'.setTop (mkF m (pc + 3) Ls (.ref b :: stk)))) : Go p e below s n0 k n Q (T.setTop (mkF m pc Ls stk)) := by
  have hs := X.size
  obtain ⟨e0, hz, locs, N, X⟩ := X
  obtain ⟨T', h', X', e', E, E1, D, -, st⟩ := Jvm.RoadKit.newO X C.hx C.hZ C.hown (C.w w) (C.w wi) (C.w wz) e0 (g := mkF m pc Ls stk) rfl (hb C.hby hd) hc hl
  exact Go.st st (K T' h' _ rfl hs ⟨e', hz, _, N, X'⟩ E E1 (fun q r => D (q.imp (fun q => C.w q) (fun q => C.w q)) r))
theorem AR.of {cA : ClassId} {ty : FieldType} {z : Int32} {a : Addr} (F : Arr Z h a (newA cA ty z) ty) (q : ¬ z < 0) : AR Z h a ty (List.replicate z.toNatClampNeg (defaultValue ty)) :=
  ⟨_, F, by simp [newA], by rw [List.length_replicate]; exact (back32 q).2⟩
theorem Go.newP (C : Ctx p s m meth c Z a0 ws own nm bytes ml ret) (X : St p l e R s m args below meth c n0 T h cells slots) {aty : ArrayType} {z : Int32} {cap : Nat} (w : Jvm.Cond.arrayClass (newarray.typeOf aty) ∈ ws) (hd : decode bytes pc = .ok (.newarray aty, 2)) (hn : ¬ z < 0) (hcap : z.toNatClampNeg ≤ cap) (hb8 : cap * 8 ≤ 536870912) (hc : cells + 1 ≤ R.cells) (hl : slots + cap ≤ R.slots)
    (K : ∀ T' h' b, h.size = b → n0 ≤ b → St p l e R s m args below meth c n0 T' h' (cells + 1) (slots + cap) → Ext h h' → AR Z h' b (newarray.typeOf aty) (List.replicate z.toNatClampNeg (defaultValue (newarray.typeOf aty))) → Go p e below s n0 k n Q (T'.setTop (mkF m (pc + 2) Ls (.ref b :: rest)))) : Go p e below s n0 k n Q (T.setTop (mkF m pc Ls (.int z :: rest))) := by
  have hs := X.size
  obtain ⟨e0, hz, locs, N, X⟩ := X
  obtain ⟨T', h', cA, X', e', E, F, st⟩ := Jvm.RoadKit.newP X C.hx C.hZ (C.w w) e0 (g := mkF m pc Ls (.int z :: rest)) rfl (hb C.hby hd) rfl hn hcap hb8 hc hl
  exact Go.st st (K T' h' _ rfl hs ⟨e', hz, _, N, X'⟩ E (AR.of F hn))
theorem AR.lt {a : Addr} {ty : FieldType} {vs : List Value} (F : AR Z h a ty vs) : a < h.size := by obtain ⟨c, A, -⟩ := F; exact A.lt
theorem AR.ext {a : Addr} {ty : FieldType} {vs : List Value} (F : AR Z h a ty vs) (E : Ext h h') : AR Z h' a ty vs := by obtain ⟨c, A, r⟩ := F; exact ⟨c, A.ext E, r⟩
theorem AR.other {a b : Addr} {ty : FieldType} {vs : List Value} {sl : Nat} {v : Value} (F : AR Z h b ty vs) (W : Wr h h' a sl v) (q : b ≠ a) : AR Z h' b ty vs := by obtain ⟨c, A, r⟩ := F; exact ⟨c, A.other W q, r⟩
theorem AR.keep {a : Addr} {ty : FieldType} {vs : List Value} {us : List Addr} (F : AR Z h a ty vs) (K : Keep h h' us) (q : a ∉ us) : AR Z h' a ty vs := by obtain ⟨c, A, r⟩ := F; exact ⟨c, ⟨K.2.1 a c A.1 q, A.2⟩, r⟩
theorem AR.same {a : Addr} {ty : FieldType} {vs : List Value} {i : Nat} {v : Value} (F : AR Z h a ty vs) (W : Wr h h' a i v) : AR Z h' a ty (vs.set i v) := by
  obtain ⟨c, A, r, q⟩ := F
  refine ⟨_, A.same W, ?_, by rw [List.length_set]; exact q⟩
  simp [Cell.setSlot, r]
theorem AR.in {a : Addr} {ty : FieldType} {vs : List Value} {j : Int32} {c : Cell} (r : c.slots = vs.toArray) (hj : ¬ j < 0) (hl : j.toNatClampNeg < vs.length) : ¬ (j < 0 ∨ c.slots.size ≤ j.toNatClampNeg) := by
  rw [r]; simp; exact ⟨Int32.not_lt.mp hj, hl⟩
theorem AR.ne {a b : Addr} {ty : FieldType} {vs : List Value} (F : AR Z h a ty vs) (g : h.size = b) : a ≠ b := by subst g; exact Nat.ne_of_lt F.lt
theorem ltOf {vs : List Value} {i : Nat} {v : Value} (q : vs[i]? = some v) : i < vs.length := (List.getElem?_eq_some_iff.mp q).1
theorem Go.iaload (C : Ctx p s m meth c Z a0 ws own nm bytes ml ret) (X : St p l e R s m args below meth c n0 T h cells slots) {a : Addr} {vs : List Value} {j : Int32} {x : Int32} (F : AR Z h a .int vs) (hj : ¬ j < 0) (hv : vs[j.toNatClampNeg]? = some (.int x)) (hd : decode bytes pc = .ok (.iaload, 1)) (K : Go p e below s n0 k n Q (T.setTop (mkF m (pc + 1) Ls (.int x :: rest)))) : Go p e below s n0 k n Q (T.setTop (mkF m pc Ls (.int j :: .ref a :: rest))) := by
  obtain ⟨e0, hz, locs, N, X⟩ := X
  obtain ⟨cl, A, r, -⟩ := F
  exact Go.st (X.iaload C.hx (j := j) (v := .int x) (by rw [e0]; exact A.1) (State.isArrayOf_alike C.hZ.alike A.2.1) A.2.2 (AR.in (a := a) (ty := .int) r hj (ltOf hv)) (by rw [r]; simpa using hv) (g := mkF m pc Ls (.int j :: .ref a :: rest)) rfl rfl (hb C.hby hd)) K
theorem Go.laload (C : Ctx p s m meth c Z a0 ws own nm bytes ml ret) (X : St p l e R s m args below meth c n0 T h cells slots) {a : Addr} {vs : List Value} {j : Int32} {x : Int64} (F : AR Z h a .long vs) (hj : ¬ j < 0) (hv : vs[j.toNatClampNeg]? = some (.long x)) (hd : decode bytes pc = .ok (.laload, 1)) (K : Go p e below s n0 k n Q (T.setTop (mkF m (pc + 1) Ls (.long x :: rest)))) : Go p e below s n0 k n Q (T.setTop (mkF m pc Ls (.int j :: .ref a :: rest))) := by
  obtain ⟨e0, hz, locs, N, X⟩ := X
  obtain ⟨cl, A, r, -⟩ := F
  exact Go.st (X.laload C.hx (j := j) (v := .long x) (by rw [e0]; exact A.1) (State.isArrayOf_alike C.hZ.alike A.2.1) A.2.2 (AR.in (a := a) (ty := .long) r hj (ltOf hv)) (by rw [r]; simpa using hv) (g := mkF m pc Ls (.int j :: .ref a :: rest)) rfl rfl (hb C.hby hd)) K
theorem Go.baload (C : Ctx p s m meth c Z a0 ws own nm bytes ml ret) (X : St p l e R s m args below meth c n0 T h cells slots) {a : Addr} {vs : List Value} {j : Int32} {x : Int32} (F : AR Z h a .byte vs) (hj : ¬ j < 0) (hv : vs[j.toNatClampNeg]? = some (.int x)) (hd : decode bytes pc = .ok (.baload, 1)) (K : Go p e below s n0 k n Q (T.setTop (mkF m (pc + 1) Ls (.int x :: rest)))) : Go p e below s n0 k n Q (T.setTop (mkF m pc Ls (.int j :: .ref a :: rest))) := by
  obtain ⟨e0, hz, locs, N, X⟩ := X
  obtain ⟨cl, A, r, -⟩ := F
  exact Go.st (X.baloadBytes C.hx (j := j) (v := .int x) (by rw [e0]; exact A.1) (State.isArrayOf_alike C.hZ.alike A.2.1) A.2.2 (AR.in (a := a) (ty := .byte) r hj (ltOf hv)) (by rw [r]; simpa using hv) (g := mkF m pc Ls (.int j :: .ref a :: rest)) rfl rfl (hb C.hby hd)) K
theorem Go.aaload (C : Ctx p s m meth c Z a0 ws own nm bytes ml ret) (X : St p l e R s m args below meth c n0 T h cells slots) {a : Addr} {ty : FieldType} {vs : List Value} {j : Int32} {v : Value} (F : AR Z h a ty vs) (hty : ty.isReference = true) (hj : ¬ j < 0) (hv : vs[j.toNatClampNeg]? = some v) (hd : decode bytes pc = .ok (.aaload, 1)) (K : Go p e below s n0 k n Q (T.setTop (mkF m (pc + 1) Ls (v :: rest)))) : Go p e below s n0 k n Q (T.setTop (mkF m pc Ls (.int j :: .ref a :: rest))) := by
  obtain ⟨e0, hz, locs, N, X⟩ := X
  obtain ⟨cl, A, r, -⟩ := F
  exact Go.st (X.aaload C.hx (j := j) (v := v) (by rw [e0]; exact A.1) (State.isArrayOf_alike C.hZ.alike A.2.1) hty A.2.2 (AR.in (a := a) (ty := ty) r hj (ltOf hv)) (by rw [r]; simpa using hv) (g := mkF m pc Ls (.int j :: .ref a :: rest)) rfl rfl (hb C.hby hd)) K
theorem Go.alen (C : Ctx p s m meth c Z a0 ws own nm bytes ml ret) (X : St p l e R s m args below meth c n0 T h cells slots) {a : Addr} {ty : FieldType} {vs : List Value} {z : Int32} (F : AR Z h a ty vs) (hz : vs.length.toInt32 = z) (hd : decode bytes pc = .ok (.arraylength, 1)) (K : Go p e below s n0 k n Q (T.setTop (mkF m (pc + 1) Ls (.int z :: rest)))) : Go p e below s n0 k n Q (T.setTop (mkF m pc Ls (.ref a :: rest))) := by
  subst hz
  obtain ⟨e0, hz, locs, N, X⟩ := X
  obtain ⟨cl, A, r, -⟩ := F
  refine Go.st (X.arraylength C.hx (by rw [e0]; exact A.1) (State.isArrayOf_alike C.hZ.alike A.2.1) (g := mkF m pc Ls (.ref a :: rest)) rfl rfl (hb C.hby hd)) ?_
  rw [r]
  simpa using K
theorem Go.iastore (C : Ctx p s m meth c Z a0 ws own nm bytes ml ret) (X : St p l e R s m args below meth c n0 T h cells slots) {a : Addr} {vs : List Value} {j : Int32} {x : Int32} (F : AR Z h a .int vs) (hj : ¬ j < 0) (hl : j.toNatClampNeg < vs.length) (ha : n0 ≤ a) (hd : decode bytes pc = .ok (.iastore, 1)) (K : ∀ T' h', St p l e R s m args below meth c n0 T' h' cells slots → Wr h h' a j.toNatClampNeg (.int x) → AR Z h' a .int (vs.set j.toNatClampNeg (.int x)) → Go p e below s n0 k n Q (T'.setTop (mkF m (pc + 1) Ls rest))) : Go p e below s n0 k n Q (T.setTop (mkF m pc Ls (.int x :: .int j :: .ref a :: rest))) := by
  obtain ⟨e0, hz, locs, N, X⟩ := X
  have F0 := F
  obtain ⟨cl, A, r, -⟩ := F
  obtain ⟨T', h', X', e', W, st⟩ := Jvm.RoadKit.stI X C.hx C.hZ e0 A (j := j) (x := x) (AR.in (a := a) (ty := .int) r hj hl) (g := mkF m pc Ls (.int x :: .int j :: .ref a :: rest)) rfl rfl (hb C.hby hd)
  exact Go.st st (K T' h' ⟨e', hz, _, Fr.snoc X' N ha, X'⟩ W (F0.same W))
theorem Go.lastore (C : Ctx p s m meth c Z a0 ws own nm bytes ml ret) (X : St p l e R s m args below meth c n0 T h cells slots) {a : Addr} {vs : List Value} {j : Int32} {x : Int64} (F : AR Z h a .long vs) (hj : ¬ j < 0) (hl : j.toNatClampNeg < vs.length) (ha : n0 ≤ a) (hd : decode bytes pc = .ok (.lastore, 1)) (K : ∀ T' h', St p l e R s m args below meth c n0 T' h' cells slots → Wr h h' a j.toNatClampNeg (.long x) → AR Z h' a .long (vs.set j.toNatClampNeg (.long x)) → Go p e below s n0 k n Q (T'.setTop (mkF m (pc + 1) Ls rest))) : Go p e below s n0 k n Q (T.setTop (mkF m pc Ls (.long x :: .int j :: .ref a :: rest))) := by
  obtain ⟨e0, hz, locs, N, X⟩ := X
  have F0 := F
  obtain ⟨cl, A, r, -⟩ := F
  obtain ⟨T', h', X', e', W, st⟩ := Jvm.RoadKit.stJ X C.hx C.hZ e0 A (j := j) (x := x) (AR.in (a := a) (ty := .long) r hj hl) (g := mkF m pc Ls (.long x :: .int j :: .ref a :: rest)) rfl rfl (hb C.hby hd)
  exact Go.st st (K T' h' ⟨e', hz, _, Fr.snoc X' N ha, X'⟩ W (F0.same W))
theorem Go.bastore (C : Ctx p s m meth c Z a0 ws own nm bytes ml ret) (X : St p l e R s m args below meth c n0 T h cells slots) {a : Addr} {vs : List Value} {j : Int32} {x : Int32} (F : AR Z h a .byte vs) (hj : ¬ j < 0) (hl : j.toNatClampNeg < vs.length) (ha : n0 ≤ a) (hd : decode bytes pc = .ok (.bastore, 1)) (K : ∀ T' h', St p l e R s m args below meth c n0 T' h' cells slots → Wr h h' a j.toNatClampNeg (.int (nar .byte x)) → AR Z h' a .byte (vs.set j.toNatClampNeg (.int (nar .byte x))) → Go p e below s n0 k n Q (T'.setTop (mkF m (pc + 1) Ls rest))) : Go p e below s n0 k n Q (T.setTop (mkF m pc Ls (.int x :: .int j :: .ref a :: rest))) := by
  obtain ⟨e0, hz, locs, N, X⟩ := X
  have F0 := F
  obtain ⟨cl, A, r, -⟩ := F
  obtain ⟨T', h', X', e', W, st⟩ := Jvm.RoadKit.stB X C.hx C.hZ e0 A (j := j) (x := x) (AR.in (a := a) (ty := .byte) r hj hl) (g := mkF m pc Ls (.int x :: .int j :: .ref a :: rest)) rfl rfl (hb C.hby hd)
  exact Go.st st (K T' h' ⟨e', hz, _, Fr.snoc X' N ha, X'⟩ W (F0.same W))
theorem Con.back {y : MethodName} {rm : Room} {as : Array Value} {W : Nat} (H : Con l Z y bytes ml ret [] rm n0 as h Q) (hZ : Z.Warmed39 s.vm) (wc : (Jvm.Cond.code y bytes ml ret).before a0 Z = true) (wz : (Jvm.Cond.initialized y.cls).before a0 Z = true) (hf : rm.frames + 1 ≤ R.frames) (hl : W + (ml + 11) + rm.locals ≤ R.locals) :
    Back l R p e below s args y 3 W (fun A a => a = as ∧ A.U.heap = h ∧ A.cells + rm.cells ≤ R.cells ∧ A.slots + rm.slots ≤ R.slots)
      (fun A _ v B => ∃ L, (Q v B.U.heap ∧ Fr n0 L) ∧ B.locs = A.locs ++ L ∧ B.cells = A.cells + rm.cells ∧ B.slots = A.slots + rm.slots) :=
  backOf (Q := fun v h L => Q v h ∧ Fr n0 L) H hZ wc wz hf hl
theorem Go.callS (C : Ctx p s m meth c Z a0 ws own nm bytes ml ret) (X : St p l e R s m args below meth c n0 T h cells slots) {y : MethodName} {bytes' : ByteArray} {ml' : Nat} {ret' : Option FieldType} {rm : Room} {i W : Nat} {argsL : List Value} {Q' : Option Value → Heap → Prop} (w1 : Jvm.Cond.methodLink own i y ∈ ws) (w2 : Jvm.Cond.static y ∈ ws) (w3 : Jvm.Cond.initialized y.cls ∈ ws) (w4 : Jvm.Cond.code y bytes' ml' ret' ∈ ws) (hy : y.cls ≠ "java/lang/invoke/MethodHandle" ∧ y.cls ≠ "java/lang/invoke/VarHandle")
    (H : Con l Z y bytes' ml' ret' [] rm n0 argsL.toArray h Q') (hfr : rm.frames + 1 ≤ R.frames) (hlo : W + (ml' + 11) + rm.locals ≤ R.locals) (hsz : Ls.size = ml) (hlen : ∀ sig, parseMethodDescriptor y.desc = some sig → argsL.length = sig.parameters.length) (hW : (rest.map fun v => v.category).sum ≤ W) (hstk : stk = argsL.reverse ++ rest) (hd : decode bytes pc = .ok (.invokestatic i, 3)) (hce : cells + rm.cells ≤ R.cells) (hsl : slots + rm.slots ≤ R.slots) (K : ∀ T' h' v, St p l e R s m args below meth c n0 T' h' (cells + rm.cells) (slots + rm.slots) → Q' v h' → Go p e below s n0 k n Q (T'.setTop (mkF m (pc + 3) Ls (v.toList ++ rest)))) : Go p e below s n0 k n Q (T.setTop (mkF m pc Ls stk)) := by
  obtain ⟨e0, hz, locs, N, X⟩ := X
  obtain ⟨v, _, ⟨T', L', k', n'⟩, -, X', ⟨L, hQ, l1, y1, z1⟩, st⟩ := Jvm.LawKit.callS X C.hx (y := y) C.hown (mvT C.hZ (C.w w1)) (mvT C.hZ (C.w w2)) (mvT C.hZ (C.w w3)) (mvT C.hZ (C.w w4)) hy (H.back (W := W) C.hZ (C.w w4) (C.w w3) hfr hlo) (g := mkF m pc Ls stk) rfl (hsz.trans C.hml.symm) (argsL := argsL) (rest := rest) hlen hstk (by show 2 * 0 + _ ≤ _; omega) (hb C.hby hd) (fun _ _ => ⟨rfl, e0, hce, hsl⟩)
  dsimp only [Pt.U, Pt.locs, Pt.cells, Pt.slots] at X' l1 y1 z1 st hQ
  subst l1 y1 z1
  exact Go.st st (K T' _ v ⟨rfl, hz, _, N.app hQ.2, X'⟩ hQ.1)
theorem Go.callInit (C : Ctx p s m meth c Z a0 ws own nm bytes ml ret) (X : St p l e R s m args below meth c n0 T h cells slots) {y : MethodName} {bytes' : ByteArray} {ml' : Nat} {rm : Room} {i W : Nat} {argsL : List Value} {Q' : Option Value → Heap → Prop} {a : Addr} (hy1 : y.name = "<init>") (w1 : Jvm.Cond.methodLink own i y ∈ ws) (w2 : Jvm.Cond.instanceMethod y ∈ ws) (w3 : Jvm.Cond.initialized y.cls ∈ ws) (w4 : Jvm.Cond.code y bytes' ml' none ∈ ws) (hy : y.cls ≠ "java/lang/invoke/MethodHandle" ∧ y.cls ≠ "java/lang/invoke/VarHandle")
    (H : Con l Z y bytes' ml' none [] rm n0 (.ref a :: argsL).toArray h Q') (hfr : rm.frames + 1 ≤ R.frames) (hlo : W + (ml' + 11) + rm.locals ≤ R.locals) (hsz : Ls.size = ml) (hlen : ∀ sig, parseMethodDescriptor y.desc = some sig → argsL.length = sig.parameters.length) (hW : (rest.map fun v => v.category).sum ≤ W) (hstk : stk = argsL.reverse ++ .ref a :: rest) (hd : decode bytes pc = .ok (.invokespecial i, 3)) (hce : cells + rm.cells ≤ R.cells) (hsl : slots + rm.slots ≤ R.slots) (K : ∀ T' h' v, St p l e R s m args below meth c n0 T' h' (cells + rm.cells) (slots + rm.slots) → Q' v h' → Go p e below s n0 k n Q (T'.setTop (mkF m (pc + 3) Ls (v.toList ++ rest)))) : Go p e below s n0 k n Q (T.setTop (mkF m pc Ls stk)) := by
  obtain ⟨e0, hz, locs, N, X⟩ := X
  obtain ⟨v, _, ⟨T', L', k', n'⟩, -, X', ⟨L, hQ, l1, y1, z1⟩, st⟩ := X.specialBack C.hx (y := y) hy1 C.hown (mvT C.hZ (C.w w1)) (mvT C.hZ (C.w w2)) (mvT C.hZ (C.w w4)) hy (H.back (W := W) C.hZ (C.w w4) (C.w w3) hfr hlo) (g := mkF m pc Ls stk) rfl (hsz.trans C.hml.symm) (Steps.refl _) (a := a) (argsL := argsL) (rest := rest) hlen hstk (by show 2 * 0 + _ ≤ _; omega) (hb C.hby hd) (fun _ _ => ⟨rfl, e0, hce, hsl⟩)
  dsimp only [Pt.U, Pt.locs, Pt.cells, Pt.slots] at X' l1 y1 z1 st hQ
  subst l1 y1 z1
  exact Go.tr st (K T' _ v ⟨rfl, hz, _, N.app hQ.2, X'⟩ hQ.1)
theorem Go.callV (C : Ctx p s m meth c Z a0 ws own nm bytes ml ret) (X : St p l e R s m args below meth c n0 T h cells slots) {y : MethodName} {bytes' : ByteArray} {ml' : Nat} {ret' : Option FieldType} {rm : Room} {i W : Nat} {argsL : List Value} {Q' : Option Value → Heap → Prop} {a : Addr} {C1 : String} (E : Exa Z h a C1) (w1 : Jvm.Cond.methodLink own i y ∈ ws) (w2 : Jvm.Cond.declares y ∈ ws) (w5 : Jvm.Cond.selects C1 y y ∈ ws) (w6 : Jvm.Cond.instanceMethod y ∈ ws) (w3 : Jvm.Cond.initialized y.cls ∈ ws) (w4 : Jvm.Cond.code y bytes' ml' ret' ∈ ws) (hy : y.cls ≠ "java/lang/invoke/MethodHandle" ∧ y.cls ≠ "java/lang/invoke/VarHandle") (hC1 : C1 = y.cls)
    (H : Con l Z y bytes' ml' ret' [] rm n0 (.ref a :: argsL).toArray h Q') (hfr : rm.frames + 1 ≤ R.frames) (hlo : W + (ml' + 11) + rm.locals ≤ R.locals) (hsz : Ls.size = ml) (hlen : ∀ sig, parseMethodDescriptor y.desc = some sig → argsL.length = sig.parameters.length) (hW : (rest.map fun v => v.category).sum ≤ W) (hstk : stk = argsL.reverse ++ .ref a :: rest) (hd : decode bytes pc = .ok (.invokevirtual i, 3)) (hce : cells + rm.cells ≤ R.cells) (hsl : slots + rm.slots ≤ R.slots) (K : ∀ T' h' v, St p l e R s m args below meth c n0 T' h' (cells + rm.cells) (slots + rm.slots) → Q' v h' → Go p e below s n0 k n Q (T'.setTop (mkF m (pc + 3) Ls (v.toList ++ rest)))) : Go p e below s n0 k n Q (T.setTop (mkF m pc Ls stk)) := by
  subst hC1
  obtain ⟨e0, hz, locs, N, X⟩ := X
  obtain ⟨cq, kq, qa, qb, qc⟩ := isOf (T := T) C.hZ e0 E
  obtain ⟨v, _, ⟨T', L', k', n'⟩, -, X', ⟨L, hQ, l1, y1, z1⟩, st⟩ := X.virtualBack C.hx (y := y) (z := y) C.hown (mvT C.hZ (C.w w1)) (mvT C.hZ (C.w w2)) (notFace_of_selects (args := #[]) (mvT C.hZ (C.w w5))) (mvT C.hZ (C.w w5)) (mvT C.hZ (C.w w6)) hy (H.back (W := W) C.hZ (C.w w4) (C.w w3) hfr hlo) qa qc (g := mkF m pc Ls stk) rfl (hsz.trans C.hml.symm) (Steps.refl _) (argsL := argsL) (rest := rest) hlen hstk (by show 2 * 0 + _ ≤ _; omega) (hb C.hby hd) (fun _ _ => ⟨rfl, e0, hce, hsl⟩)
  dsimp only [Pt.U, Pt.locs, Pt.cells, Pt.slots] at X' l1 y1 z1 st hQ
  subst l1 y1 z1
  exact Go.tr st (K T' _ v ⟨rfl, hz, _, N.app hQ.2, X'⟩ hQ.1)
theorem Go.initO (C : Ctx p s m meth c Z a0 ws own nm bytes ml ret) (X : St p l e R s m args below meth c n0 T h cells slots) {i W : Nat} {a : Addr} (w1 : Jvm.Cond.methodLink own i Lib.objectInit ∈ ws) (w2 : Jvm.Cond.instanceMethod Lib.objectInit ∈ ws) (w3 : Jvm.Cond.code Lib.objectInit ⟨#[0xb1]⟩ 1 none ∈ ws) (hsz : Ls.size = ml) (hd : decode bytes pc = .ok (.invokespecial i, 3)) (hf : 1 ≤ R.frames) (hW : (rest.map fun v => v.category).sum ≤ W) (hl : W + 12 ≤ R.locals) (K : ∀ T', St p l e R s m args below meth c n0 T' h cells slots → Go p e below s n0 k n Q (T'.setTop (mkF m (pc + 3) Ls rest))) : Go p e below s n0 k n Q (T.setTop (mkF m pc Ls (.ref a :: rest))) := by
  obtain ⟨e0, hz, locs, N, X⟩ := X
  obtain ⟨T', X', e', st⟩ := Jvm.RoadKit.initO X C.hx C.hZ C.hown (C.w w1) (C.w w2) (C.w w3) e0 (g := mkF m pc Ls (.ref a :: rest)) rfl (hsz.trans C.hml.symm) rfl (hb C.hby hd) hf (W := W) (by show 2 * 0 + _ ≤ _; omega) hl
  exact Go.st st (K T' ⟨e', hz, locs, N, X'⟩)
theorem Go.ldcI (C : Ctx p s m meth c Z a0 ws own nm bytes ml ret) (X : St p l e R s m args below meth c n0 T h cells slots) {i : Nat} {x : Int32} (w : Jvm.Cond.constant own i x ∈ ws) (hd : decode bytes pc = .ok (.ldc i, 2)) (K : Go p e below s n0 k n Q (T.setTop (mkF m (pc + 2) Ls (.int x :: stk)))) : Go p e below s n0 k n Q (T.setTop (mkF m pc Ls stk)) := by
  obtain ⟨e0, hz, locs, N, X⟩ := X
  exact Go.st (fun _ => X.ldcI (g := mkF m pc Ls stk) C.hx C.hown (mvT C.hZ (C.w w)) rfl (hb C.hby hd)) K
theorem Go.ldcW (C : Ctx p s m meth c Z a0 ws own nm bytes ml ret) (X : St p l e R s m args below meth c n0 T h cells slots) {i : Nat} {x : Int32} (w : Jvm.Cond.constant own i x ∈ ws) (hd : decode bytes pc = .ok (.ldc_w i, 3)) (K : Go p e below s n0 k n Q (T.setTop (mkF m (pc + 3) Ls (.int x :: stk)))) : Go p e below s n0 k n Q (T.setTop (mkF m pc Ls stk)) := by
  obtain ⟨e0, hz, locs, N, X⟩ := X
  exact Go.st (fun _ => X.ldcWI (g := mkF m pc Ls stk) C.hx C.hown (mvT C.hZ (C.w w)) rfl (hb C.hby hd)) K
theorem Go.ldcJ (C : Ctx p s m meth c Z a0 ws own nm bytes ml ret) (X : St p l e R s m args below meth c n0 T h cells slots) {i : Nat} {x : Int64} (w : Jvm.Cond.constantLong own i x ∈ ws) (hd : decode bytes pc = .ok (.ldc2_w i, 3)) (K : Go p e below s n0 k n Q (T.setTop (mkF m (pc + 3) Ls (.long x :: stk)))) : Go p e below s n0 k n Q (T.setTop (mkF m pc Ls stk)) := by
  obtain ⟨e0, hz, locs, N, X⟩ := X
  exact Go.st (fun _ => X.ldc2J (g := mkF m pc Ls stk) C.hx C.hown (mvT C.hZ (C.w w)) rfl (hb C.hby hd)) K
theorem Go.irem (C : Ctx p s m meth c Z a0 ws own nm bytes ml ret) (X : St p l e R s m args below meth c n0 T h cells slots) {x y : Int32} (hy : y ≠ 0) (hd : decode bytes pc = .ok (.irem, 1)) (K : Go p e below s n0 k n Q (T.setTop (mkF m (pc + 1) Ls (.int (x % y) :: rest)))) : Go p e below s n0 k n Q (T.setTop (mkF m pc Ls (.int y :: .int x :: rest))) := by
  obtain ⟨e0, hz, locs, N, X⟩ := X
  exact Go.st (fun _ => Jvm.RoadKit.iremM (g := mkF m pc Ls (.int y :: .int x :: rest)) X C.hx rfl (hb C.hby hd) rfl hy) K
theorem Go.lrem (C : Ctx p s m meth c Z a0 ws own nm bytes ml ret) (X : St p l e R s m args below meth c n0 T h cells slots) {x y : Int64} (hy : y ≠ 0) (hd : decode bytes pc = .ok (.lrem, 1)) (K : Go p e below s n0 k n Q (T.setTop (mkF m (pc + 1) Ls (.long (x % y) :: rest)))) : Go p e below s n0 k n Q (T.setTop (mkF m pc Ls (.long y :: .long x :: rest))) := by
  refine Go.st (fun _ => XS.lrem (g := mkF m pc Ls (.long y :: .long x :: rest)) X.here C.hx rfl (hb C.hby hd) rfl hy) ?_
  rw [lrem_mod]
  exact K
theorem Go.dupX2 (C : Ctx p s m meth c Z a0 ws own nm bytes ml ret) (X : St p l e R s m args below meth c n0 T h cells slots) {x y z : Value} (h1 : x.category = 1) (h2 : y.category = 1) (h3 : z.category = 1) (hd : decode bytes pc = .ok (.dup_x2, 1)) (K : Go p e below s n0 k n Q (T.setTop (mkF m (pc + 1) Ls (x :: y :: z :: x :: rest)))) : Go p e below s n0 k n Q (T.setTop (mkF m pc Ls (x :: y :: z :: rest))) := by
  refine Go.st (fun t hr => ?_) K
  have hx := C.hx
  have hd' := hb C.hby hd
  jvm_step X.here [X.here.top, hx, hd', h1, h2, h3]
  exact hr
theorem eqI_v {args : Array Value} {first s : State} {o : Option Outcome} {idx : List Nat} {t : Term} {z : Int32} (q : (Jvm.Cond.eq t (Term.int z)).value args first o s idx = some true) : t.eval args first o idx s = some (.int z) := by
  obtain ⟨x, y, ha, hb, k1, k2⟩ := cmp_v (Or.inl q)
  have hy : y = .int z := by
    have r := Term.int_eval (args := args) (first := first) (o := o) (idx := idx) (s := s) z
    rw [r] at hb; exact (Option.some.inj hb).symm
  subst hy
  obtain ⟨u, rfl⟩ := k2
  rw [ha, gotT (Cond.eq_ints ha hb) q]
theorem fieldNe {args : Array Value} {first s : State} {o : Option Outcome} {idx : List Nat} {t t' : Term} {C f d : String} {a b : Addr} {z z' : Int32} (h1 : t.eval args first o idx s = some (.ref a)) (h2 : t'.eval args first o idx s = some (.ref b)) (q1 : (Jvm.Cond.eq (Term.field t C f d) (Term.int z)).value args first o s idx = some true) (q2 : (Jvm.Cond.eq (Term.field t' C f d) (Term.int z')).value args first o s idx = some true) (hz : z ≠ z') : a ≠ b := by
  intro r; subst r
  have e1 := eqI_v q1; have e2 := eqI_v q2
  rw [fld_at h1] at e1; rw [fld_at h2] at e2
  rw [e1] at e2
  cases e2; exact hz rfl
/-- an array whose elements are known and that may be cloned -/
def AF (Z : State) (h : Heap) (a : Addr) (ty : FieldType) (vs : List Value) : Prop := ∃ c : Cell, Arr Z h a c ty ∧ c.slots = vs.toArray ∧ vs.length < 2 ^ 31 ∧ FitC Z c
theorem AF.ar {a : Addr} {ty : FieldType} {vs : List Value} (F : AF Z h a ty vs) : AR Z h a ty vs := by obtain ⟨c, A, r, q, -⟩ := F; exact ⟨c, A, r, q⟩
theorem Go.clone (C : Ctx p s m meth c Z a0 ws own nm bytes ml ret) (X : St p l e R s m args below meth c n0 T h cells slots) {ad : String} {i W cap : Nat} {a : Addr} {ty : FieldType} {vs : List Value} (w1 : Jvm.Cond.methodLink own i ⟨ad, "clone", "()Ljava/lang/Object;"⟩ ∈ ws) (w2 : Jvm.Cond.sameMethod ad "java/lang/Object" "clone" "()Ljava/lang/Object;" ∈ ws) (w3 : Jvm.Cond.native ⟨"java/lang/Object", "clone", "()Ljava/lang/Object;"⟩ ∈ ws) (w4 : Jvm.Cond.instanceMethod ⟨"java/lang/Object", "clone", "()Ljava/lang/Object;"⟩ ∈ ws)
    (w5 : Jvm.Cond.selects ad ⟨ad, "clone", "()Ljava/lang/Object;"⟩ ⟨"java/lang/Object", "clone", "()Ljava/lang/Object;"⟩ ∈ ws) (w6 : Jvm.Cond.castable ad "java/lang/Cloneable" ∈ ws) (F : AF Z h a ty vs) (E : Exa Z h a ad) (hsz : Ls.size = ml) (hd : decode bytes pc = .ok (.invokevirtual i, 3)) (hf : 1 ≤ R.frames) (hW : (rest.map fun v => v.category).sum ≤ W) (hl : W + 14 ≤ R.locals) (hcap : vs.length ≤ cap) (hc : cells + 1 ≤ R.cells) (hsl : slots + cap ≤ R.slots)
    (K : ∀ T' h' b, h.size = b → n0 ≤ b → St p l e R s m args below meth c n0 T' h' (cells + 1) (slots + cap) → Ext h h' → AR Z h' b ty vs → Exa Z h' b ad → Go p e below s n0 k n Q (T'.setTop (mkF m (pc + 3) Ls (.ref b :: rest)))) : Go p e below s n0 k n Q (T.setTop (mkF m pc Ls (.ref a :: rest))) := by
  have hs := X.size
  obtain ⟨e0, hz, locs, N, X⟩ := X
  obtain ⟨cl, A, r, q, FC⟩ := F
  obtain ⟨T', h', X', e', Ex, A', E', st⟩ := Jvm.RoadKit.cloneA X C.hx C.hZ C.hown (C.w w1) (C.w w2) (C.w w3) (C.w w4) (C.w w5) (C.w w6) e0 A E FC (g := mkF m pc Ls (.ref a :: rest)) rfl (hsz.trans C.hml.symm) rfl (hb C.hby hd) hf (W := W) (cap := cap) (by show 2 * 0 + _ ≤ _; omega) hl (by rw [r]; simpa using hcap) hc hsl
  exact Go.st st (K T' h' _ rfl hs ⟨e', hz, _, N, X'⟩ Ex ⟨_, A', r, q⟩ E')
theorem Go.cast (C : Ctx p s m meth c Z a0 ws own nm bytes ml ret) (X : St p l e R s m args below meth c n0 T h cells slots) {i : Nat} {K1 : String} {a : Addr} (w : Jvm.Cond.classLink own i K1 ∈ ws) (F : Ins Z h a K1 true) (hd : decode bytes pc = .ok (.checkcast i, 3)) (K : ∀ T', St p l e R s m args below meth c n0 T' h cells slots → Go p e below s n0 k n Q (T'.setTop (mkF m (pc + 3) Ls (.ref a :: rest)))) : Go p e below s n0 k n Q (T.setTop (mkF m pc Ls (.ref a :: rest))) := by
  obtain ⟨e0, hz, locs, N, X⟩ := X
  obtain ⟨T', X', e', st⟩ := Jvm.RoadKit.castY X C.hx C.hZ C.hown (C.w w) e0 F (g := mkF m pc Ls (.ref a :: rest)) rfl rfl (hb C.hby hd)
  exact Go.st st (K T' ⟨e', hz, locs, N, X'⟩)
theorem elemRef {args : Array Value} {s : State} {t t' : Term} {a x : Addr} {cl : Cell} {j : Int32} (q : (Jvm.Cond.eq (Term.elem t (Term.int j)) t').value args s none s [] = some true) (ht : t.eval args s none [] s = some (.ref a)) (ht' : t'.eval args s none [] s = some (.ref x)) (hc : s.heap[a]? = some cl) : cl.slots[j.toNatClampNeg]? = some (.ref x) := by
  obtain ⟨u, v, ha, hb, k1, k2⟩ := cmp_v (Or.inl q)
  rw [ht'] at hb
  cases hb
  have e := gotT (eq_R ha ht' k2.2 rfl) q
  subst e
  exact (elem_in ha ht (Term.int_eval j) hc).2
theorem fldI {args : Array Value} {s : State} {t : Term} {a : Addr} {C f d : String} {z : Int32} (q : (Jvm.Cond.eq (Term.field t C f d) (Term.int z)).value args s none s [] = some true) (ht : t.eval args s none [] s = some (.ref a)) : Fld s s.heap a C f d (.int z) := by
  have e := eqI_v q
  rw [fld_at ht] at e
  exact Fld.start e
theorem lenOf' {args : Array Value} {s : State} {t : Term} {a : Addr} {cl : Cell} {ty : FieldType} {z : Int32} (q : (Jvm.Cond.eq (Term.length t) (Term.int z)).value args s none s [] = some true) (ht : t.eval args s none [] s = some (.ref a)) (A : Arr s s.heap a cl ty) : cl.slots.size.toInt32 = z ∧ cl.slots.size < 2 ^ 31 := by
  obtain ⟨b, cell, h1, h2, h3, h4⟩ := Jvm.Lib.length_spec (eqI_v q)
  rw [ht] at h1
  cases h1
  rw [A.fin (Vm.Alike.refl _)] at h2
  cases h2
  exact ⟨(Value.int.inj h4).symm, h3⟩
theorem Go.newPE (C : Ctx p s m meth c Z a0 ws own nm bytes ml ret) (X : St p l e R s m args below meth c n0 T h cells slots) {aty : ArrayType} {z : Int32} {cap : Nat} {ad : String} (w : Jvm.Cond.arrayClass (newarray.typeOf aty) ∈ ws) (had : "[" ++ (newarray.typeOf aty).toString = ad) (hd : decode bytes pc = .ok (.newarray aty, 2)) (hn : ¬ z < 0) (hcap : z.toNatClampNeg ≤ cap) (hb8 : cap * 8 ≤ 536870912) (hc : cells + 1 ≤ R.cells) (hl : slots + cap ≤ R.slots)
    (K : ∀ T' h' b, h.size = b → n0 ≤ b → St p l e R s m args below meth c n0 T' h' (cells + 1) (slots + cap) → Ext h h' → AR Z h' b (newarray.typeOf aty) (List.replicate z.toNatClampNeg (defaultValue (newarray.typeOf aty))) → Exa Z h' b ad → Go p e below s n0 k n Q (T'.setTop (mkF m (pc + 2) Ls (.ref b :: rest)))) : Go p e below s n0 k n Q (T.setTop (mkF m pc Ls (.int z :: rest))) := by
  have hs := X.size
  obtain ⟨e0, hz, locs, N, X⟩ := X
  obtain ⟨T', h', cA, X', e', E, F, EX, st⟩ := Jvm.RoadKit.newPE X C.hx C.hZ (C.w w) e0 (g := mkF m pc Ls (.int z :: rest)) rfl (hb C.hby hd) rfl hn hcap hb8 hc hl had
  exact Go.st st (K T' h' _ rfl hs ⟨e', hz, _, N, X'⟩ E (AR.of F hn) EX)
theorem AF.zero {a : Addr} {N : Nat} (F : AR Z h a .byte (List.replicate N (.int (0 : Int32)))) : AF Z h a .byte (List.replicate N (.int (0 : Int32))) := by
  obtain ⟨c, A, r, q⟩ := F
  refine ⟨c, A, r, q, fitC_of A fun i hi v hv => ?_⟩
  rw [r, List.getElem?_toArray, List.getElem?_replicate] at hv
  split at hv
  · cases hv; rfl
  · cases hv
theorem AR.arv0 {a : Addr} {N : Nat} (F : AR Z h a .byte (List.replicate N (.int (0 : Int32)))) : ∃ k, Arv Z h a k .byte N.toInt32 (List.replicate N (.int (0 : Int32))) (.int (0 : Int32)) := by
  obtain ⟨c, A, r, q⟩ := F
  rw [List.length_replicate] at q
  have sz : c.slots.size = N := by rw [r]; simp
  have cN : N.toInt32.toNatClampNeg = N := by simp only [Int32.toNatClampNeg, len_toInt q]; rfl
  have g0 : ∀ i, (List.replicate N (Value.int (0 : Int32))).getD i (.int (0 : Int32)) = .int (0 : Int32) := fun i => by
    rw [List.getD_eq_getElem?_getD, List.getElem?_replicate]; split <;> rfl
  refine ⟨c.cls, c, A, rfl, by rw [sz, cN], ?_, fun i hi => ?_, fun i _ => by rw [g0]; rfl⟩
  · rw [Int32.lt_iff_toInt_lt, len_toInt q]
    have h0 : (0 : Int32).toInt = 0 := rfl
    omega
  · rw [g0, r]
    rw [sz] at hi
    simp [List.getElem?_replicate, hi]
theorem Arv.ar0 {a : Addr} {k : ClassId} {N : Nat} {vs : List Value} (hN : N < 2 ^ 31) (F : Arv Z h a k .byte N.toInt32 vs (.int (0 : Int32))) (hv : ∀ i, vs.getD i (.int (0 : Int32)) = .int (0 : Int32)) : AR Z h a .byte (List.replicate N (.int (0 : Int32))) := by
  obtain ⟨c, A, -, S, -, H, -⟩ := F
  have cN : N.toInt32.toNatClampNeg = N := by simp only [Int32.toNatClampNeg, len_toInt hN]; rfl
  rw [cN] at S
  refine ⟨c, A, ?_, by rw [List.length_replicate]; exact hN⟩
  apply Array.ext_getElem?
  intro i
  by_cases q : i < N
  · rw [H i (by omega), hv]; simp [List.getElem?_replicate, q]
  · rw [Array.getElem?_eq_none (by omega), Array.getElem?_eq_none (by simp; omega)]
theorem Go.acopy0 (C : Ctx p s m meth c Z a0 ws own nm bytes ml ret) (X : St p l e R s m args below meth c n0 T h cells slots) {i W : Nat} {a b : Addr} {n1 n2 : Nat} {nn : Int32} (w1 : Jvm.Cond.methodLink own i Jvm.Stand.acN ∈ ws) (w2 : Jvm.Cond.native Jvm.Stand.acN ∈ ws) (w3 : Jvm.Cond.static Jvm.Stand.acN ∈ ws) (w4 : Jvm.Cond.initialized "java/lang/System" ∈ ws) (F1 : AR Z h a .byte (List.replicate n1 (.int (0 : Int32)))) (F2 : AR Z h b .byte (List.replicate n2 (.int (0 : Int32)))) (hnn : ¬ nn < 0) (h1 : nn.toNatClampNeg ≤ n1) (h2 : nn.toNatClampNeg ≤ n2) (gb : n0 ≤ b) (hsz : Ls.size = ml)
    (hd : decode bytes pc = .ok (.invokestatic i, 3)) (hf : 1 ≤ R.frames) (hW : (rest.map fun v => v.category).sum ≤ W) (hlo : W + (nativeFrameWords "java/lang/System" "arraycopy" 5 + 11) ≤ R.locals)
    (K : ∀ T' h', St p l e R s m args below meth c n0 T' h' cells slots → Keep h h' [b] → AR Z h' b .byte (List.replicate n2 (.int (0 : Int32))) → Go p e below s n0 k n Q (T'.setTop (mkF m (pc + 3) Ls rest))) : Go p e below s n0 k n Q (T.setTop (mkF m pc Ls (.int nn :: .int 0 :: .ref b :: .int 0 :: .ref a :: rest))) := by
  obtain ⟨e0, hz, locs, N, X⟩ := X
  obtain ⟨k1, V1⟩ := F1.arv0
  obtain ⟨k2, V2⟩ := F2.arv0
  have q1 : n1 < 2 ^ 31 := by obtain ⟨_, _, _, q⟩ := F1; rw [List.length_replicate] at q; exact q
  have q2 : n2 < 2 ^ 31 := by obtain ⟨_, _, _, q⟩ := F2; rw [List.length_replicate] at q; exact q
  have c1 : n1.toInt32.toNatClampNeg = n1 := by simp only [Int32.toNatClampNeg, len_toInt q1]; rfl
  have c2 : n2.toInt32.toNatClampNeg = n2 := by simp only [Int32.toNatClampNeg, len_toInt q2]; rfl
  have z0 : (0 : Int32).toNatClampNeg = 0 := rfl
  obtain ⟨T', h', L, X', e', N', KK, V', st⟩ := cpA X C.hx C.hZ C.hown (C.w w1) (C.w w2) (C.w w3) (C.w w4) e0 V1 V2 (sp := 0) (dp := 0) (nn := nn) (Or.inl ⟨rfl, rfl⟩) (by decide) (by decide) hnn (by rw [z0, c1]; omega) (by rw [z0, c2]; omega) rfl (by rw [z0, List.length_replicate]; omega) N gb (g := mkF m pc Ls (.int nn :: .int 0 :: .ref b :: .int 0 :: .ref a :: rest)) rfl (hsz.trans C.hml.symm) rfl (hb C.hby hd) hf (W := W) (by show 2 * 0 + _ ≤ _; omega) hlo
  refine Go.st st (K T' h' ⟨e', hz, L, N', X'⟩ KK (Arv.ar0 q2 V' fun j => ?_))
  have g0 : ∀ (vs : List Value), (∀ x ∈ vs, x = .int (0 : Int32)) → vs.getD j (.int (0 : Int32)) = .int (0 : Int32) := fun vs hv => by
    rw [List.getD_eq_getElem?_getD]
    cases hq : vs[j]? with
    | none => rfl
    | some x => exact hv x (List.mem_of_getElem? hq)
  refine g0 _ fun x hx => ?_
  rcases List.mem_append.mp hx with hx | hx
  · rcases List.mem_append.mp hx with hx | hx
    · rw [z0] at hx; simp at hx
    · obtain ⟨y, -, rfl⟩ := List.mem_map.mp hx
      rw [List.getD_eq_getElem?_getD, List.getElem?_replicate]; split <;> rfl
  · exact (List.mem_replicate.mp (List.mem_of_mem_drop hx)).2
/-- an array of int arrays -/
def AO (Z : State) (h : Heap) (a : Addr) (vs : List Value) : Prop := ∃ c : Cell, Arr Z h a c (.array .int) ∧ c.slots = vs.toArray ∧ vs.length < 2 ^ 31 ∧ OvrA Z c.cls .int "[I"
theorem AO.ar {a : Addr} {vs : List Value} (F : AO Z h a vs) : AR Z h a (.array .int) vs := by obtain ⟨c, A, r, q, -⟩ := F; exact ⟨c, A, r, q⟩
theorem AO.lt {a : Addr} {vs : List Value} (F : AO Z h a vs) : a < h.size := F.ar.lt
theorem AO.ext {a : Addr} {vs : List Value} (F : AO Z h a vs) (E : Ext h h') : AO Z h' a vs := by obtain ⟨c, A, r⟩ := F; exact ⟨c, A.ext E, r⟩
theorem AO.other {a b : Addr} {vs : List Value} {sl : Nat} {v : Value} (F : AO Z h b vs) (W : Wr h h' a sl v) (q : b ≠ a) : AO Z h' b vs := by obtain ⟨c, A, r⟩ := F; exact ⟨c, A.other W q, r⟩
theorem AO.keep {a : Addr} {vs : List Value} {us : List Addr} (F : AO Z h a vs) (K : Keep h h' us) (q : a ∉ us) : AO Z h' a vs := by obtain ⟨c, A, r⟩ := F; exact ⟨c, ⟨K.2.1 a c A.1 q, A.2⟩, r⟩
theorem AO.same {a : Addr} {vs : List Value} {i : Nat} {v : Value} (F : AO Z h a vs) (W : Wr h h' a i v) : AO Z h' a (vs.set i v) := by
  obtain ⟨c, A, r, q, O⟩ := F
  refine ⟨_, A.same W, ?_, by rw [List.length_set]; exact q, O⟩
  simp [Cell.setSlot, r]
theorem Go.newRA (C : Ctx p s m meth c Z a0 ws own nm bytes ml ret) (X : St p l e R s m args below meth c n0 T h cells slots) {z : Int32} {i cap : Nat} (w1 : Jvm.Cond.classLink own i "[I" ∈ ws) (w2 : Jvm.Cond.arrayOver (.array .int) ∈ ws) (hd : decode bytes pc = .ok (.anewarray i, 3)) (hn : ¬ z < 0) (hcap : z.toNatClampNeg ≤ cap) (hb8 : cap * 8 ≤ 536870912) (hc : cells + 1 ≤ R.cells) (hl : slots + cap ≤ R.slots)
    (K : ∀ T' h' b, h.size = b → n0 ≤ b → St p l e R s m args below meth c n0 T' h' (cells + 1) (slots + cap) → Ext h h' → AO Z h' b (List.replicate z.toNatClampNeg .null) → Go p e below s n0 k n Q (T'.setTop (mkF m (pc + 3) Ls (.ref b :: rest)))) : Go p e below s n0 k n Q (T.setTop (mkF m pc Ls (.int z :: rest))) := by
  have hs := X.size
  obtain ⟨e0, hz, locs, N, X⟩ := X
  obtain ⟨T', h', cA, X', e', E, F, -, O, st⟩ := Jvm.RoadKit.newRA X C.hx C.hZ C.hown (C := "[I") (ty := .int) (by decide) (C.w w1) (C.w w2) e0 (g := mkF m pc Ls (.int z :: rest)) rfl (hb C.hby hd) rfl hn hcap hb8 hc hl (ad := "[[I") (by decide)
  exact Go.st st (K T' h' _ rfl hs ⟨e', hz, _, N, X'⟩ E ⟨_, F, by simp [newA, defaultValue], by rw [List.length_replicate]; exact (back32 hn).2, O⟩)
theorem Go.aastore (C : Ctx p s m meth c Z a0 ws own nm bytes ml ret) (X : St p l e R s m args below meth c n0 T h cells slots) {a y : Addr} {vs : List Value} {j : Int32} (F : AO Z h a vs) (I : Exa Z h y "[I") (hj : ¬ j < 0) (hl : j.toNatClampNeg < vs.length) (ha : n0 ≤ a) (hd : decode bytes pc = .ok (.aastore, 1)) (K : ∀ T' h', St p l e R s m args below meth c n0 T' h' cells slots → Wr h h' a j.toNatClampNeg (.ref y) → AO Z h' a (vs.set j.toNatClampNeg (.ref y)) → Go p e below s n0 k n Q (T'.setTop (mkF m (pc + 1) Ls rest))) : Go p e below s n0 k n Q (T.setTop (mkF m pc Ls (.ref y :: .int j :: .ref a :: rest))) := by
  obtain ⟨e0, hz, locs, N, X⟩ := X
  have F0 := F
  obtain ⟨cl, A, r, -, O⟩ := F
  obtain ⟨T', h', X', e', W, st⟩ := Jvm.RoadKit.stR X C.hx C.hZ e0 A (j := j) (v := .ref y) (AR.in (a := a) (ty := .array .int) r hj hl) rfl (Sto.ofVA A rfl O (Ins.self I)) (g := mkF m pc Ls (.ref y :: .int j :: .ref a :: rest)) rfl rfl (hb C.hby hd)
  exact Go.st st (K T' h' ⟨e', hz, _, Fr.snoc X' N ha, X'⟩ W (F0.same W))
end One
end Jvm.OwnGo
namespace Jvm.Pilot.@@N@@
open Jvm Jvm.ClassFile Sem Op Lib Jvm.Free Jvm.Stand Jvm.LawKit Jvm.RoadKit Bundle Jvm.OwnGo Jvm.Pilot.@@N@@.Jvm.D
theorem cl32 {i : Nat} (h : i < 2147483648) : i.toInt32.toNatClampNeg = i := by
  simp only [Int32.toNatClampNeg, len_toInt h]; rfl
theorem nn32 {i : Nat} (h : i < 2147483648) : ¬ i.toInt32 < 0 := by
  rw [Int32.lt_iff_toInt_lt, len_toInt h]
  have h0 : (0 : Int32).toInt = 0 := rfl
  omega
theorem ltI {i j : Nat} (hi : i < 1000) (hj : j < 1000) : i.toInt32 < j.toInt32 ↔ i < j := by
  rw [Int32.lt_iff_toInt_lt, len_toInt (by omega), len_toInt (by omega)]; omega
theorem eqI {i j : Nat} (hi : i < 1000) (hj : j < 1000) : i.toInt32 = j.toInt32 ↔ i = j := by
  rw [← Int32.toInt_inj, len_toInt (by omega), len_toInt (by omega)]; omega
theorem inc32 (i : Nat) : i.toInt32 + (1 : Int32) = (i + 1).toInt32 := by
  apply Int32.toBitVec_inj.mp
  show BitVec.ofNat 32 i + BitVec.ofNat 32 1 = BitVec.ofNat 32 (i + 1)
  rw [BitVec.ofNat_add]
def cnt (fs : Nat → Nat) : Nat → Nat → Nat
  | 0, _ => 0
  | i + 1, x => if x = fs i then cnt fs i x + 1 else cnt fs i x
def dgV (c : Nat) (d : Nat → Nat) : List Value := (List.range c).map (fun x => .int (d x).toInt32)
def frV (n : Nat) (fs : Nat → Nat) : List Value := (List.range n).map (fun j => .int (fs j).toInt32)
def tsV (n : Nat) (ts : Nat → Int32) : List Value := (List.range n).map (fun j => .int (ts j))
def ouV (c i : Nat) (rs : Nat → Addr) : List Value := (List.range c).map (fun x => if x < i then .ref (rs x) else .null)
def d2 (fs : Nat → Nat) (n i x : Nat) : Nat := if x < i then 0 else cnt fs n x
def upd (rs : Nat → Addr) (i : Nat) (b : Addr) : Nat → Addr := fun x => if x = i then b else rs x
def rowP (fs : Nat → Nat) (ts : Nat → Int32) (n : Nat) : Nat → Nat → List Int32
  | 0, x => List.replicate (cnt fs n x) 0
  | i + 1, x => if x = fs i then (rowP fs ts n i x).set (cnt fs i x) (ts i) else rowP fs ts n i x
theorem map_get {α : Type} (c : Nat) (g : Nat → α) {t : Nat} (h : t < c) : ((List.range c).map g)[t]? = some (g t) := by
  rw [List.getElem?_map, List.getElem?_range h]; rfl
theorem map_set {α : Type} (c : Nat) (g g' : Nat → α) {t : Nat} (v : α) (ht : g' t = v) (hg : ∀ x, x < c → x ≠ t → g' x = g x) : ((List.range c).map g).set t v = (List.range c).map g' := by
  apply List.ext_getElem?
  intro j
  rw [List.getElem?_set]
  by_cases q : t = j
  · subst q
    rw [if_pos rfl]
    by_cases r : t < c
    · rw [if_pos (by simpa using r), map_get c g' r, ht]
    · rw [if_neg (by simpa using r), List.getElem?_eq_none (by simpa using r)]
  · rw [if_neg q]
    by_cases r : j < c
    · rw [map_get c g r, map_get c g' r, hg j r (fun u => q u.symm)]
    · rw [List.getElem?_eq_none (by simpa using r), List.getElem?_eq_none (by simpa using r)]
theorem map_same {α : Type} (c : Nat) (g g' : Nat → α) (hg : ∀ x, x < c → g x = g' x) : (List.range c).map g = (List.range c).map g' := by
  apply List.map_congr_left
  intro x hx
  exact hg x (List.mem_range.mp hx)
theorem cnt_le (fs : Nat → Nat) : ∀ i x, cnt fs i x ≤ i
  | 0, _ => Nat.le_refl _
  | i + 1, x => by
    have := cnt_le fs i x
    unfold cnt; split <;> omega
theorem cnt_mono (fs : Nat → Nat) (x : Nat) : ∀ k i, cnt fs i x ≤ cnt fs (i + k) x
  | 0, i => Nat.le_refl _
  | k + 1, i => by
    have := cnt_mono fs x k i
    show _ ≤ (if x = fs (i + k) then cnt fs (i + k) x + 1 else cnt fs (i + k) x)
    split <;> omega
theorem cnt_lt (fs : Nat → Nat) {i n : Nat} (h : i < n) : cnt fs i (fs i) < cnt fs n (fs i) := by
  have := cnt_mono fs (fs i) (n - (i + 1)) (i + 1)
  rw [show i + 1 + (n - (i + 1)) = n by omega] at this
  have e : cnt fs (i + 1) (fs i) = cnt fs i (fs i) + 1 := by
    show (if fs i = fs i then _ else _) = _
    rw [if_pos rfl]
  omega
theorem row_len (fs : Nat → Nat) (ts : Nat → Int32) (n : Nat) : ∀ i x, (rowP fs ts n i x).length = cnt fs n x
  | 0, x => by unfold rowP; rw [List.length_replicate]
  | i + 1, x => by
    have := row_len fs ts n i x
    unfold rowP; split
    · rw [List.length_set]; exact this
    · exact this
theorem dg_len (c : Nat) (d : Nat → Nat) : (dgV c d).length = c := by simp [dgV]
theorem fr_len (n : Nat) (fs : Nat → Nat) : (frV n fs).length = n := by simp [frV]
theorem ts_len (n : Nat) (ts : Nat → Int32) : (tsV n ts).length = n := by simp [tsV]
theorem ou_len (c i : Nat) (rs : Nat → Addr) : (ouV c i rs).length = c := by simp [ouV]
theorem dg_get {c : Nat} {d : Nat → Nat} {t : Nat} (hc : c ≤ 4) (h : t < c) : (dgV c d)[t.toInt32.toNatClampNeg]? = some (.int (d t).toInt32) := by
  rw [cl32 (by omega)]; exact map_get c _ h
theorem fr_get {n : Nat} {fs : Nat → Nat} {t : Nat} (hn : n ≤ 4) (h : t < n) : (frV n fs)[t.toInt32.toNatClampNeg]? = some (.int (fs t).toInt32) := by
  rw [cl32 (by omega)]; exact map_get n _ h
theorem ts_get {n : Nat} {ts : Nat → Int32} {t : Nat} (hn : n ≤ 4) (h : t < n) : (tsV n ts)[t.toInt32.toNatClampNeg]? = some (.int (ts t)) := by
  rw [cl32 (by omega)]; exact map_get n _ h
theorem ou_get {c : Nat} {rs : Nat → Addr} {t : Nat} (hc : c ≤ 4) (h : t < c) : (ouV c c rs)[t.toInt32.toNatClampNeg]? = some (.ref (rs t)) := by
  rw [cl32 (by omega)]
  have := map_get c (fun x => if x < c then Value.ref (rs x) else .null) h
  simp only [h, if_true] at this
  exact this
theorem dg_inc {c : Nat} {fs : Nat → Nat} {i : Nat} (hc : c ≤ 4) (h : fs i < c) : (dgV c (cnt fs i)).set (fs i).toInt32.toNatClampNeg (.int ((cnt fs i (fs i)).toInt32 + (1 : Int32))) = dgV c (cnt fs (i + 1)) := by
  rw [cl32 (by omega), inc32]
  refine map_set c _ _ _ ?_ fun x _ hx => ?_
  · show Value.int (Nat.toInt32 (if fs i = fs i then _ else _)) = _
    rw [if_pos rfl]
  · show Value.int (Nat.toInt32 (if x = fs i then _ else _)) = _
    rw [if_neg hx]
theorem dg_zero (c : Nat) (fs : Nat → Nat) : List.replicate c (.int (0 : Int32)) = dgV c (cnt fs 0) := by
  apply List.ext_getElem?
  intro j
  rw [List.getElem?_replicate]
  by_cases q : j < c
  · rw [if_pos q]; exact (map_get c (fun x => Value.int (cnt fs 0 x).toInt32) q).symm
  · rw [if_neg q, List.getElem?_eq_none (by rw [dg_len]; omega)]
theorem dg_clear {c : Nat} {fs : Nat → Nat} {n i : Nat} (hc : c ≤ 4) (h : i < c) : (dgV c (d2 fs n i)).set i.toInt32.toNatClampNeg (.int (0 : Int32)) = dgV c (d2 fs n (i + 1)) := by
  rw [cl32 (by omega)]
  refine map_set c _ _ _ ?_ fun x _ hx => ?_
  · show Value.int (Nat.toInt32 (if i < i + 1 then _ else _)) = _
    rw [if_pos (by omega)]; rfl
  · show Value.int (Nat.toInt32 (if x < i + 1 then _ else _)) = Value.int (Nat.toInt32 (if x < i then _ else _))
    by_cases q : x < i
    · rw [if_pos q, if_pos (by omega)]
    · rw [if_neg q, if_neg (by omega)]
theorem d2_zero (c : Nat) (fs : Nat → Nat) (n : Nat) : dgV c (cnt fs n) = dgV c (d2 fs n 0) := rfl
theorem d2_end (c : Nat) (fs : Nat → Nat) (n : Nat) : dgV c (d2 fs n c) = dgV c (cnt fs 0) := by
  refine map_same c _ _ fun x hx => ?_
  show Value.int (Nat.toInt32 (if x < c then _ else _)) = _
  rw [if_pos hx]; rfl
theorem d2_at (fs : Nat → Nat) (n i : Nat) : d2 fs n i i = cnt fs n i := by unfold d2; rw [if_neg (by omega)]
theorem ou_zero (c : Nat) (rs : Nat → Addr) : List.replicate c Value.null = ouV c 0 rs := by
  apply List.ext_getElem?
  intro j
  rw [List.getElem?_replicate]
  by_cases q : j < c
  · rw [if_pos q]; exact (map_get c (fun x => if x < 0 then Value.ref (rs x) else .null) q).symm
  · rw [if_neg q, List.getElem?_eq_none (by rw [ou_len]; omega)]
theorem ou_set {c i : Nat} {rs : Nat → Addr} {b : Addr} (hc : c ≤ 4) (h : i < c) : (ouV c i rs).set i.toInt32.toNatClampNeg (.ref b) = ouV c (i + 1) (upd rs i b) := by
  rw [cl32 (by omega)]
  refine map_set c _ _ _ ?_ fun x _ hx => ?_
  · show (if i < i + 1 then Value.ref (if i = i then b else rs i) else _) = _
    rw [if_pos (by omega), if_pos rfl]
  · show (if x < i + 1 then Value.ref (if x = i then b else rs x) else _) = (if x < i then Value.ref (rs x) else _)
    rw [if_neg hx]
    by_cases q : x < i
    · rw [if_pos q, if_pos (by omega)]
    · rw [if_neg q, if_neg (by omega)]
theorem row0 (fs : Nat → Nat) (ts : Nat → Int32) (n x : Nat) : List.replicate (cnt fs n x) (.int (0 : Int32)) = (rowP fs ts n 0 x).map Value.int := by
  unfold rowP; rw [List.map_replicate]
theorem row_set {fs : Nat → Nat} {ts : Nat → Int32} {n i : Nat} (hn : n ≤ 4) (h : i < n) : ((rowP fs ts n i (fs i)).map Value.int).set (cnt fs i (fs i)).toInt32.toNatClampNeg (.int (ts i)) = (rowP fs ts n (i + 1) (fs i)).map Value.int := by
  have := cnt_le fs i (fs i)
  rw [cl32 (by omega), ← List.map_set]
  congr 1
  show _ = (if fs i = fs i then _ else _)
  rw [if_pos rfl]
theorem row_other {fs : Nat → Nat} {ts : Nat → Int32} {n i x : Nat} (h : x ≠ fs i) : rowP fs ts n (i + 1) x = rowP fs ts n i x := by
  show (if x = fs i then _ else _) = _
  rw [if_neg h]
theorem upd_eq (rs : Nat → Addr) (i : Nat) (b : Addr) : upd rs i b i = b := by unfold upd; rw [if_pos rfl]
theorem upd_ne (rs : Nat → Addr) {i x : Nat} (b : Addr) (h : x ≠ i) : upd rs i b x = rs x := by unfold upd; rw [if_neg h]
theorem upd_all {P : Addr → Prop} {rs : Nat → Addr} {i : Nat} {b : Addr} (h : ∀ x, x < i → P (rs x)) (hb : P b) : ∀ x, x < i + 1 → P (upd rs i b x) := fun x hx => by
  by_cases q : x = i
  · rw [q, upd_eq]; exact hb
  · rw [upd_ne rs b q]; exact h x (by omega)
theorem upd_dr {rs : Nat → Addr} {i : Nat} {b : Addr} (h : ∀ x y, x < i → y < i → x ≠ y → rs x ≠ rs y) (hb : ∀ x, x < i → rs x ≠ b) : ∀ x y, x < i + 1 → y < i + 1 → x ≠ y → upd rs i b x ≠ upd rs i b y := fun x y hx hy hn => by
  by_cases q : x = i
  · subst q
    rw [upd_eq, upd_ne rs b (fun u => hn u.symm)]; exact (hb y (by omega)).symm
  · by_cases r : y = i
    · subst r
      rw [upd_eq, upd_ne rs b q]; exact hb x (by omega)
    · rw [upd_ne rs b q, upd_ne rs b r]; exact h x y (by omega) (by omega) hn
theorem upd_rows {Z : State} {h : Heap} {rs : Nat → Addr} {i : Nat} {b : Addr} {L : Nat → List Value} (F : ∀ x, x < i → AR Z h (rs x) .int (L x)) (B : AR Z h b .int (L i)) : ∀ x, x < i + 1 → AR Z h (upd rs i b x) .int (L x) := fun x hx => by
  by_cases q : x = i
  · rw [q, upd_eq]; exact B
  · rw [upd_ne rs b q]; exact F x (by omega)
theorem d1_0 : decode jdk_29_method_65_code 0 = .ok (.iload_n 0, 1) := by decide +kernel
theorem d1_1 : decode jdk_29_method_65_code 1 = .ok (.iload_n 1, 1) := by decide +kernel
theorem d1_2 : decode jdk_29_method_65_code 2 = .ok (.if_icmp .lt 7, 3) := by decide +kernel
theorem d1_5 : decode jdk_29_method_65_code 5 = .ok (.iload_n 0, 1) := by decide +kernel
theorem d1_6 : decode jdk_29_method_65_code 6 = .ok (.goto 4, 3) := by decide +kernel
theorem d1_9 : decode jdk_29_method_65_code 9 = .ok (.iload_n 1, 1) := by decide +kernel
theorem d1_10 : decode jdk_29_method_65_code 10 = .ok (.ireturn, 1) := by decide +kernel
theorem pf_1 : plainFor (⟨"java/lang/Math", "max", "(II)I"⟩ : MethodName) = true := by decide +kernel
theorem pd_1 : parseMethodDescriptor "(II)I" = some ⟨[.int, .int], some .int⟩ := by decide +kernel
def mxF (x y : Int32) : Int32 := if x < y then y else x
set_option maxRecDepth 65536 in
set_option maxHeartbeats 40000000 in
theorem con_max (l : Launch) (Z : State) (a0 : Array Value) (hw : ∀ d ∈ tables_1, d.before a0 Z = true) (n0 : Nat) (h0 : Heap) (Z0 : n0 ≤ h0.size) (xx yy : Int32)  :
    Con l Z (⟨"java/lang/Math", "max", "(II)I"⟩ : MethodName) jdk_29_method_65_code 2 (some .int) [] ({ frames := 0, cells := 0, slots := 0, locals := 0 } : Room) n0 #[(.int xx), (.int yy)] h0 (fun v h => v = some (.int (mxF xx yy)) ∧ h = h0) := by
  refine Con.mk pf_1 hw Z0 ?_
  intro p e s m below meth c T0 C X0
  have ef : entryFrame m #[(.int xx), (.int yy)] 2 = mkF m 0 #[iv xx, iv yy] [] := by first | (simp [entryFrame, mkF, argsToLocals, Value.category]; done) | rfl
  rw [ef]
  show Go p e below s n0 _ _ _ (T0.setTop (mkF m 0 #[iv xx, iv yy] []))
  refine Go.st (fun _ => XS.iloadN X0.here C.hx rfl (hb C.hby d1_0) rfl) ?_
  show Go p e below s n0 _ _ _ (T0.setTop (mkF m 1 #[iv xx, iv yy] [(.int xx)]))
  refine Go.st (fun _ => XS.iloadN X0.here C.hx rfl (hb C.hby d1_1) rfl) ?_
  show Go p e below s n0 _ _ _ (T0.setTop (mkF m 2 #[iv xx, iv yy] [(.int yy), (.int xx)]))
  refine Go.icmp_lt C X0 (pc' := 9) d1_2 (by decide) (by decide) (fun hc2_101 => ?_) (fun hc2_101 => ?_)
  · show Go p e below s n0 _ _ _ (T0.setTop (mkF m 9 #[iv xx, iv yy] []))
    refine Go.st (fun _ => XS.iloadN X0.here C.hx rfl (hb C.hby d1_9) rfl) ?_
    show Go p e below s n0 _ _ _ (T0.setTop (mkF m 10 #[iv xx, iv yy] [(.int yy)]))
    exact Go.retI C X0 d1_10 ⟨by simp [mxF, hc2_101], rfl⟩ (by decide) (by decide)
  · show Go p e below s n0 _ _ _ (T0.setTop (mkF m 5 #[iv xx, iv yy] []))
    refine Go.st (fun _ => XS.iloadN X0.here C.hx rfl (hb C.hby d1_5) rfl) ?_
    show Go p e below s n0 _ _ _ (T0.setTop (mkF m 6 #[iv xx, iv yy] [(.int xx)]))
    refine Go.st (fun _ => XS.goto X0.here C.hx rfl (pc0 := 6) (pc' := 10) rfl (hb C.hby d1_6) (by decide) (by decide)) ?_
    show Go p e below s n0 _ _ _ (T0.setTop (mkF m 10 #[iv xx, iv yy] [(.int xx)]))
    exact Go.retI C X0 d1_10 ⟨by simp [mxF, hc2_101], rfl⟩ (by decide) (by decide)
theorem d2_0 : decode prog_26_method_4_code 0 = .ok (.iload_n 0, 1) := by decide +kernel
theorem d2_1 : decode prog_26_method_4_code 1 = .ok (.newarray .int, 2) := by decide +kernel
theorem d2_3 : decode prog_26_method_4_code 3 = .ok (.astore_n 3, 1) := by decide +kernel
theorem d2_4 : decode prog_26_method_4_code 4 = .ok (.aload_n 1, 1) := by decide +kernel
theorem d2_5 : decode prog_26_method_4_code 5 = .ok (.astore 4, 2) := by decide +kernel
theorem d2_7 : decode prog_26_method_4_code 7 = .ok (.aload 4, 2) := by decide +kernel
theorem d2_9 : decode prog_26_method_4_code 9 = .ok (.arraylength, 1) := by decide +kernel
theorem d2_10 : decode prog_26_method_4_code 10 = .ok (.istore 5, 2) := by decide +kernel
theorem d2_12 : decode prog_26_method_4_code 12 = .ok (.iconst 0, 1) := by decide +kernel
theorem d2_13 : decode prog_26_method_4_code 13 = .ok (.istore 6, 2) := by decide +kernel
theorem d2_15 : decode prog_26_method_4_code 15 = .ok (.iload 6, 2) := by decide +kernel
theorem d2_17 : decode prog_26_method_4_code 17 = .ok (.iload 5, 2) := by decide +kernel
theorem d2_19 : decode prog_26_method_4_code 19 = .ok (.if_icmp .ge 24, 3) := by decide +kernel
theorem d2_22 : decode prog_26_method_4_code 22 = .ok (.aload 4, 2) := by decide +kernel
theorem d2_24 : decode prog_26_method_4_code 24 = .ok (.iload 6, 2) := by decide +kernel
theorem d2_26 : decode prog_26_method_4_code 26 = .ok (.iaload, 1) := by decide +kernel
theorem d2_27 : decode prog_26_method_4_code 27 = .ok (.istore 7, 2) := by decide +kernel
theorem d2_29 : decode prog_26_method_4_code 29 = .ok (.aload_n 3, 1) := by decide +kernel
theorem d2_30 : decode prog_26_method_4_code 30 = .ok (.iload 7, 2) := by decide +kernel
theorem d2_32 : decode prog_26_method_4_code 32 = .ok (.dup2, 1) := by decide +kernel
theorem d2_33 : decode prog_26_method_4_code 33 = .ok (.iaload, 1) := by decide +kernel
theorem d2_34 : decode prog_26_method_4_code 34 = .ok (.iconst 1, 1) := by decide +kernel
theorem d2_35 : decode prog_26_method_4_code 35 = .ok (.iadd, 1) := by decide +kernel
theorem d2_36 : decode prog_26_method_4_code 36 = .ok (.iastore, 1) := by decide +kernel
theorem d2_37 : decode prog_26_method_4_code 37 = .ok (.iinc 6 1, 3) := by decide +kernel
theorem d2_40 : decode prog_26_method_4_code 40 = .ok (.goto (-25), 3) := by decide +kernel
theorem d2_43 : decode prog_26_method_4_code 43 = .ok (.iload_n 0, 1) := by decide +kernel
theorem d2_44 : decode prog_26_method_4_code 44 = .ok (.anewarray 64, 3) := by decide +kernel
theorem d2_47 : decode prog_26_method_4_code 47 = .ok (.astore 4, 2) := by decide +kernel
theorem d2_49 : decode prog_26_method_4_code 49 = .ok (.iconst 0, 1) := by decide +kernel
theorem d2_50 : decode prog_26_method_4_code 50 = .ok (.istore 5, 2) := by decide +kernel
theorem d2_52 : decode prog_26_method_4_code 52 = .ok (.iload 5, 2) := by decide +kernel
theorem d2_54 : decode prog_26_method_4_code 54 = .ok (.iload_n 0, 1) := by decide +kernel
theorem d2_55 : decode prog_26_method_4_code 55 = .ok (.if_icmp .ge 25, 3) := by decide +kernel
theorem d2_58 : decode prog_26_method_4_code 58 = .ok (.aload 4, 2) := by decide +kernel
theorem d2_60 : decode prog_26_method_4_code 60 = .ok (.iload 5, 2) := by decide +kernel
theorem d2_62 : decode prog_26_method_4_code 62 = .ok (.aload_n 3, 1) := by decide +kernel
theorem d2_63 : decode prog_26_method_4_code 63 = .ok (.iload 5, 2) := by decide +kernel
theorem d2_65 : decode prog_26_method_4_code 65 = .ok (.iaload, 1) := by decide +kernel
theorem d2_66 : decode prog_26_method_4_code 66 = .ok (.newarray .int, 2) := by decide +kernel
theorem d2_68 : decode prog_26_method_4_code 68 = .ok (.aastore, 1) := by decide +kernel
theorem d2_69 : decode prog_26_method_4_code 69 = .ok (.aload_n 3, 1) := by decide +kernel
theorem d2_70 : decode prog_26_method_4_code 70 = .ok (.iload 5, 2) := by decide +kernel
theorem d2_72 : decode prog_26_method_4_code 72 = .ok (.iconst 0, 1) := by decide +kernel
theorem d2_73 : decode prog_26_method_4_code 73 = .ok (.iastore, 1) := by decide +kernel
theorem d2_74 : decode prog_26_method_4_code 74 = .ok (.iinc 5 1, 3) := by decide +kernel
theorem d2_77 : decode prog_26_method_4_code 77 = .ok (.goto (-25), 3) := by decide +kernel
theorem d2_80 : decode prog_26_method_4_code 80 = .ok (.iconst 0, 1) := by decide +kernel
theorem d2_81 : decode prog_26_method_4_code 81 = .ok (.istore 5, 2) := by decide +kernel
theorem d2_83 : decode prog_26_method_4_code 83 = .ok (.iload 5, 2) := by decide +kernel
theorem d2_85 : decode prog_26_method_4_code 85 = .ok (.aload_n 1, 1) := by decide +kernel
theorem d2_86 : decode prog_26_method_4_code 86 = .ok (.arraylength, 1) := by decide +kernel
theorem d2_87 : decode prog_26_method_4_code 87 = .ok (.if_icmp .ge 32, 3) := by decide +kernel
theorem d2_90 : decode prog_26_method_4_code 90 = .ok (.aload 4, 2) := by decide +kernel
theorem d2_92 : decode prog_26_method_4_code 92 = .ok (.aload_n 1, 1) := by decide +kernel
theorem d2_93 : decode prog_26_method_4_code 93 = .ok (.iload 5, 2) := by decide +kernel
theorem d2_95 : decode prog_26_method_4_code 95 = .ok (.iaload, 1) := by decide +kernel
theorem d2_96 : decode prog_26_method_4_code 96 = .ok (.aaload, 1) := by decide +kernel
theorem d2_97 : decode prog_26_method_4_code 97 = .ok (.aload_n 3, 1) := by decide +kernel
theorem d2_98 : decode prog_26_method_4_code 98 = .ok (.aload_n 1, 1) := by decide +kernel
theorem d2_99 : decode prog_26_method_4_code 99 = .ok (.iload 5, 2) := by decide +kernel
theorem d2_101 : decode prog_26_method_4_code 101 = .ok (.iaload, 1) := by decide +kernel
theorem d2_102 : decode prog_26_method_4_code 102 = .ok (.dup2, 1) := by decide +kernel
theorem d2_103 : decode prog_26_method_4_code 103 = .ok (.iaload, 1) := by decide +kernel
theorem d2_104 : decode prog_26_method_4_code 104 = .ok (.dup_x2, 1) := by decide +kernel
theorem d2_105 : decode prog_26_method_4_code 105 = .ok (.iconst 1, 1) := by decide +kernel
theorem d2_106 : decode prog_26_method_4_code 106 = .ok (.iadd, 1) := by decide +kernel
theorem d2_107 : decode prog_26_method_4_code 107 = .ok (.iastore, 1) := by decide +kernel
theorem d2_108 : decode prog_26_method_4_code 108 = .ok (.aload_n 2, 1) := by decide +kernel
theorem d2_109 : decode prog_26_method_4_code 109 = .ok (.iload 5, 2) := by decide +kernel
theorem d2_111 : decode prog_26_method_4_code 111 = .ok (.iaload, 1) := by decide +kernel
theorem d2_112 : decode prog_26_method_4_code 112 = .ok (.iastore, 1) := by decide +kernel
theorem d2_113 : decode prog_26_method_4_code 113 = .ok (.iinc 5 1, 3) := by decide +kernel
theorem d2_116 : decode prog_26_method_4_code 116 = .ok (.goto (-33), 3) := by decide +kernel
theorem d2_119 : decode prog_26_method_4_code 119 = .ok (.aload 4, 2) := by decide +kernel
theorem d2_121 : decode prog_26_method_4_code 121 = .ok (.areturn, 1) := by decide +kernel
theorem pf_2 : plainFor (⟨"com/example/lattis/lattis/Walk", "adjacency", "(I[I[I)[[I"⟩ : MethodName) = true := plainFor_of_name (by first | (simp [plainName, overriddenIn]; done) | decide +kernel)
theorem pd_2 : parseMethodDescriptor "(I[I[I)[[I" = some ⟨[.int, (.array .int), (.array .int)], some (.array (.array .int))⟩ := by decide +kernel
set_option maxRecDepth 65536 in
set_option maxHeartbeats 40000000 in
theorem loop3 {p : Program} {l : Launch} {e : Env} {R : Room} {s : State} {m : MethodId} {args : Array Value} {below : List Frame} {meth : Method} {c : Code} {Z : State} {a0 : Array Value} {n0 kc kn cells slots : Nat} {Q : Option Value → Heap → Prop} (C : Ctx p s m meth c Z a0 tables_1 "com/example/lattis/lattis/Walk" "adjacency" prog_26_method_4_code 8 (some (.array (.array .int)))) (cc n : Nat) (hc : cc ≤ 4) (hn : n ≤ 4) (fs : Nat → Nat) (hfs : ∀ j, j < n → fs j < cc) (ts : Nat → Int32) (a1 a2 a3 : Addr) (h0 : Heap) (g3 : n0 ≤ a3) (old_a3 : h0.size ≤ a3) (n13 : a1 ≠ a3) (n23 : a2 ≠ a3) (a4 : Addr) (g4 : n0 ≤ a4) (old_a4 : h0.size ≤ a4) (n14 : a1 ≠ a4) (n24 : a2 ≠ a4) (n34 : a3 ≠ a4) (s6 s7 : Slot) (rs : Nat → Addr) (gr : ∀ x, x < cc → n0 ≤ rs x) (oldr : ∀ x, x < cc → h0.size ≤ rs x) (r1 : ∀ x, x < cc → rs x ≠ a1) (r2 : ∀ x, x < cc → rs x ≠ a2) (r3 : ∀ x, x < cc → rs x ≠ a3) (r4 : ∀ x, x < cc → rs x ≠ a4) (dr : ∀ x y, x < cc → y < cc → x ≠ y → rs x ≠ rs y) (hkc : cells ≤ kc) (hkn : slots ≤ kn) (hQ : ∀ v h, (∃ b rs, v = some (.ref b) ∧ AO Z h b (ouV cc cc rs) ∧ (∀ x, x < cc → AR Z h (rs x) .int ((rowP fs ts n n x).map Value.int)) ∧ Keep h0 h []) → Q v h) : ∀ (k i : Nat) (T : State) (h : Heap), i + k = n → St p l e R s m args below meth c n0 T h cells slots → AR Z h a1 .int (frV n fs) → AR Z h a2 .int (tsV n ts) → AR Z h a3 .int (dgV cc (cnt fs i)) → AO Z h a4 (ouV cc cc rs) → (∀ x, x < cc → AR Z h (rs x) .int ((rowP fs ts n i x).map Value.int)) → Keep h0 h [] →
    Go p e below s n0 kc kn Q (T.setTop (mkF m 83 #[iv cc.toInt32, rv a1, rv a2, rv a3, rv a4, iv i.toInt32, s6, s7] [])) := by
  intro k
  induction k with
  | zero =>
    intro i T h hi X A1 A2 A3 O4 RF KK
    obtain rfl : i = n := by omega
    show Go p e below s n0 _ _ _ (T.setTop (mkF m 83 #[iv cc.toInt32, rv a1, rv a2, rv a3, rv a4, iv i.toInt32, s6, s7] []))
    refine Go.st (fun _ => XS.iload X.here C.hx rfl (hb C.hby d2_83) rfl) ?_
    show Go p e below s n0 _ _ _ (T.setTop (mkF m 85 #[iv cc.toInt32, rv a1, rv a2, rv a3, rv a4, iv i.toInt32, s6, s7] [(.int i.toInt32)]))
    refine Go.st (fun _ => XS.aloadN X.here C.hx rfl (hb C.hby d2_85) rfl rfl) ?_
    show Go p e below s n0 _ _ _ (T.setTop (mkF m 86 #[iv cc.toInt32, rv a1, rv a2, rv a3, rv a4, iv i.toInt32, s6, s7] [(.ref a1), (.int i.toInt32)]))
    refine Go.alen C X A1 (z := i.toInt32) (by rw [fr_len]) d2_86 ?_
    show Go p e below s n0 _ _ _ (T.setTop (mkF m 87 #[iv cc.toInt32, rv a1, rv a2, rv a3, rv a4, iv i.toInt32, s6, s7] [(.int i.toInt32), (.int i.toInt32)]))
    refine Go.icmp_ge C X (pc' := 119) d2_87 (by decide) (by decide) (fun _ => ?_) (fun hc => by first | exact absurd hc (irr _) | exact absurd (irr _) hc)
    show Go p e below s n0 _ _ _ (T.setTop (mkF m 119 #[iv cc.toInt32, rv a1, rv a2, rv a3, rv a4, iv i.toInt32, s6, s7] []))
    refine Go.st (fun _ => XS.aload X.here C.hx rfl (hb C.hby d2_119) rfl rfl) ?_
    show Go p e below s n0 _ _ _ (T.setTop (mkF m 121 #[iv cc.toInt32, rv a1, rv a2, rv a3, rv a4, iv i.toInt32, s6, s7] [(.ref a4)]))
    exact Go.retA C X rfl rfl d2_121 (hQ _ _ ⟨a4, rs, rfl, O4, RF, KK⟩) hkc hkn
  | succ k ih =>
    intro i T h hi X A1 A2 A3 O4 RF KK
    have hlt : i.toInt32 < n.toInt32 := (ltI (by omega) (by omega)).mpr (by omega)
    have hti : fs i < cc := hfs i (by omega)
    have hcl := cnt_le fs i (fs i)
    have old_rs := oldr (fs i) hti
    show Go p e below s n0 _ _ _ (T.setTop (mkF m 83 #[iv cc.toInt32, rv a1, rv a2, rv a3, rv a4, iv i.toInt32, s6, s7] []))
    refine Go.st (fun _ => XS.iload X.here C.hx rfl (hb C.hby d2_83) rfl) ?_
    show Go p e below s n0 _ _ _ (T.setTop (mkF m 85 #[iv cc.toInt32, rv a1, rv a2, rv a3, rv a4, iv i.toInt32, s6, s7] [(.int i.toInt32)]))
    refine Go.st (fun _ => XS.aloadN X.here C.hx rfl (hb C.hby d2_85) rfl rfl) ?_
    show Go p e below s n0 _ _ _ (T.setTop (mkF m 86 #[iv cc.toInt32, rv a1, rv a2, rv a3, rv a4, iv i.toInt32, s6, s7] [(.ref a1), (.int i.toInt32)]))
    refine Go.alen C X A1 (z := n.toInt32) (by rw [fr_len]) d2_86 ?_
    show Go p e below s n0 _ _ _ (T.setTop (mkF m 87 #[iv cc.toInt32, rv a1, rv a2, rv a3, rv a4, iv i.toInt32, s6, s7] [(.int n.toInt32), (.int i.toInt32)]))
    refine Go.icmp_ge C X (pc' := 119) d2_87 (by decide) (by decide) (fun hc => by first | exact absurd hc hlt | exact absurd hlt hc) (fun _ => ?_)
    show Go p e below s n0 _ _ _ (T.setTop (mkF m 90 #[iv cc.toInt32, rv a1, rv a2, rv a3, rv a4, iv i.toInt32, s6, s7] []))
    refine Go.st (fun _ => XS.aload X.here C.hx rfl (hb C.hby d2_90) rfl rfl) ?_
    show Go p e below s n0 _ _ _ (T.setTop (mkF m 92 #[iv cc.toInt32, rv a1, rv a2, rv a3, rv a4, iv i.toInt32, s6, s7] [(.ref a4)]))
    refine Go.st (fun _ => XS.aloadN X.here C.hx rfl (hb C.hby d2_92) rfl rfl) ?_
    show Go p e below s n0 _ _ _ (T.setTop (mkF m 93 #[iv cc.toInt32, rv a1, rv a2, rv a3, rv a4, iv i.toInt32, s6, s7] [(.ref a1), (.ref a4)]))
    refine Go.st (fun _ => XS.iload X.here C.hx rfl (hb C.hby d2_93) rfl) ?_
    show Go p e below s n0 _ _ _ (T.setTop (mkF m 95 #[iv cc.toInt32, rv a1, rv a2, rv a3, rv a4, iv i.toInt32, s6, s7] [(.int i.toInt32), (.ref a1), (.ref a4)]))
    refine Go.iaload C X A1 (nn32 (by omega)) (fr_get hn (by omega)) d2_95 ?_
    show Go p e below s n0 _ _ _ (T.setTop (mkF m 96 #[iv cc.toInt32, rv a1, rv a2, rv a3, rv a4, iv i.toInt32, s6, s7] [(.int (fs i).toInt32), (.ref a4)]))
    refine Go.aaload C X (O4).ar rfl (nn32 (by omega)) (ou_get hc hti) d2_96 ?_
    show Go p e below s n0 _ _ _ (T.setTop (mkF m 97 #[iv cc.toInt32, rv a1, rv a2, rv a3, rv a4, iv i.toInt32, s6, s7] [(.ref (rs (fs i)))]))
    refine Go.st (fun _ => XS.aloadN X.here C.hx rfl (hb C.hby d2_97) rfl rfl) ?_
    show Go p e below s n0 _ _ _ (T.setTop (mkF m 98 #[iv cc.toInt32, rv a1, rv a2, rv a3, rv a4, iv i.toInt32, s6, s7] [(.ref a3), (.ref (rs (fs i)))]))
    refine Go.st (fun _ => XS.aloadN X.here C.hx rfl (hb C.hby d2_98) rfl rfl) ?_
    show Go p e below s n0 _ _ _ (T.setTop (mkF m 99 #[iv cc.toInt32, rv a1, rv a2, rv a3, rv a4, iv i.toInt32, s6, s7] [(.ref a1), (.ref a3), (.ref (rs (fs i)))]))
    refine Go.st (fun _ => XS.iload X.here C.hx rfl (hb C.hby d2_99) rfl) ?_
    show Go p e below s n0 _ _ _ (T.setTop (mkF m 101 #[iv cc.toInt32, rv a1, rv a2, rv a3, rv a4, iv i.toInt32, s6, s7] [(.int i.toInt32), (.ref a1), (.ref a3), (.ref (rs (fs i)))]))
    refine Go.iaload C X A1 (nn32 (by omega)) (fr_get hn (by omega)) d2_101 ?_
    show Go p e below s n0 _ _ _ (T.setTop (mkF m 102 #[iv cc.toInt32, rv a1, rv a2, rv a3, rv a4, iv i.toInt32, s6, s7] [(.int (fs i).toInt32), (.ref a3), (.ref (rs (fs i)))]))
    refine Go.st (fun _ => XT.dup2 X.here C.hx rfl (hb C.hby d2_102) rfl rfl rfl) ?_
    show Go p e below s n0 _ _ _ (T.setTop (mkF m 103 #[iv cc.toInt32, rv a1, rv a2, rv a3, rv a4, iv i.toInt32, s6, s7] [(.int (fs i).toInt32), (.ref a3), (.int (fs i).toInt32), (.ref a3), (.ref (rs (fs i)))]))
    refine Go.iaload C X A3 (nn32 (by omega)) (dg_get hc hti) d2_103 ?_
    show Go p e below s n0 _ _ _ (T.setTop (mkF m 104 #[iv cc.toInt32, rv a1, rv a2, rv a3, rv a4, iv i.toInt32, s6, s7] [(.int (cnt fs i (fs i)).toInt32), (.int (fs i).toInt32), (.ref a3), (.ref (rs (fs i)))]))
    refine Go.dupX2 C X rfl rfl rfl d2_104 ?_
    show Go p e below s n0 _ _ _ (T.setTop (mkF m 105 #[iv cc.toInt32, rv a1, rv a2, rv a3, rv a4, iv i.toInt32, s6, s7] [(.int (cnt fs i (fs i)).toInt32), (.int (fs i).toInt32), (.ref a3), (.int (cnt fs i (fs i)).toInt32), (.ref (rs (fs i)))]))
    refine Go.st (fun _ => XS.iconst X.here C.hx rfl (hb C.hby d2_105)) ?_
    show Go p e below s n0 _ _ _ (T.setTop (mkF m 106 #[iv cc.toInt32, rv a1, rv a2, rv a3, rv a4, iv i.toInt32, s6, s7] [(.int 1), (.int (cnt fs i (fs i)).toInt32), (.int (fs i).toInt32), (.ref a3), (.int (cnt fs i (fs i)).toInt32), (.ref (rs (fs i)))]))
    refine Go.st (fun _ => XS.iadd X.here C.hx rfl (hb C.hby d2_106) rfl) ?_
    show Go p e below s n0 _ _ _ (T.setTop (mkF m 107 #[iv cc.toInt32, rv a1, rv a2, rv a3, rv a4, iv i.toInt32, s6, s7] [(.int ((cnt fs i (fs i)).toInt32 + (1 : Int32))), (.int (fs i).toInt32), (.ref a3), (.int (cnt fs i (fs i)).toInt32), (.ref (rs (fs i)))]))
    refine Go.iastore C X A3 (nn32 (by omega)) (by rw [dg_len, cl32 (by omega)]; omega) g3 d2_107 (fun T104 h104 X104 W104 A104 => ?_)
    have RF_105 : ∀ x, x < cc → AR Z h104 (rs x) .int ((rowP fs ts n i x).map Value.int) := (fun x hx => (RF x hx).other W104 (r3 x hx))
    have K104 : Keep h0 h104 [] := KK.wr W104 (Or.inr old_a3)
    show Go p e below s n0 _ _ _ (T104.setTop (mkF m 108 #[iv cc.toInt32, rv a1, rv a2, rv a3, rv a4, iv i.toInt32, s6, s7] [(.int (cnt fs i (fs i)).toInt32), (.ref (rs (fs i)))]))
    refine Go.st (fun _ => XS.aloadN X104.here C.hx rfl (hb C.hby d2_108) rfl rfl) ?_
    show Go p e below s n0 _ _ _ (T104.setTop (mkF m 109 #[iv cc.toInt32, rv a1, rv a2, rv a3, rv a4, iv i.toInt32, s6, s7] [(.ref a2), (.int (cnt fs i (fs i)).toInt32), (.ref (rs (fs i)))]))
    refine Go.st (fun _ => XS.iload X104.here C.hx rfl (hb C.hby d2_109) rfl) ?_
    show Go p e below s n0 _ _ _ (T104.setTop (mkF m 111 #[iv cc.toInt32, rv a1, rv a2, rv a3, rv a4, iv i.toInt32, s6, s7] [(.int i.toInt32), (.ref a2), (.int (cnt fs i (fs i)).toInt32), (.ref (rs (fs i)))]))
    refine Go.iaload C X104 (A2.other W104 n23) (nn32 (by omega)) (ts_get hn (by omega)) d2_111 ?_
    show Go p e below s n0 _ _ _ (T104.setTop (mkF m 112 #[iv cc.toInt32, rv a1, rv a2, rv a3, rv a4, iv i.toInt32, s6, s7] [(.int (ts i)), (.int (cnt fs i (fs i)).toInt32), (.ref (rs (fs i)))]))
    refine Go.iastore C X104 (RF_105 (fs i) hti) (nn32 (by omega)) (by rw [List.length_map, row_len, cl32 (by omega)]; exact cnt_lt fs (by omega)) (gr _ hti) d2_112 (fun T106 h106 X106 W106 A106 => ?_)
    have AN106 : AR Z h106 (rs (fs i)) .int ((rowP fs ts n (i + 1) (fs i)).map Value.int) := by have u := A106; rw [row_set hn (by omega)] at u; exact u
    have RN106 : ∀ x, x < cc → AR Z h106 (rs x) .int ((rowP fs ts n (i + 1) x).map Value.int) := fun x hx => by
      by_cases q : x = fs i
      · rw [q]; exact AN106
      · rw [row_other q]; exact (RF_105 x hx).other W106 (dr x (fs i) hx hti q)
    have A1_107 : AR Z h106 a1 .int (frV n fs) := ((A1.other W104 n13).other W106 (Ne.symm (r1 _ hti)))
    have A2_108 : AR Z h106 a2 .int (tsV n ts) := ((A2.other W104 n23).other W106 (Ne.symm (r2 _ hti)))
    have O4_109 : AO Z h106 a4 (ouV cc cc rs) := ((O4.other W104 (Ne.symm n34)).other W106 (Ne.symm (r4 _ hti)))
    have K106 : Keep h0 h106 [] := K104.wr W106 (Or.inr old_rs)
    show Go p e below s n0 _ _ _ (T106.setTop (mkF m 113 #[iv cc.toInt32, rv a1, rv a2, rv a3, rv a4, iv i.toInt32, s6, s7] []))
    refine Go.st (fun _ => XS.iinc X106.here C.hx rfl (hb C.hby d2_113) rfl (l' := #[iv cc.toInt32, rv a1, rv a2, rv a3, rv a4, iv (i.toInt32 + (1 : Int32)), s6, s7]) rfl) ?_
    show Go p e below s n0 _ _ _ (T106.setTop (mkF m 116 #[iv cc.toInt32, rv a1, rv a2, rv a3, rv a4, iv (i.toInt32 + (1 : Int32)), s6, s7] []))
    refine Go.st (fun _ => XS.goto X106.here C.hx rfl (pc0 := 116) (pc' := 83) rfl (hb C.hby d2_116) (by decide) (by decide)) ?_
    show Go p e below s n0 _ _ _ (T106.setTop (mkF m 83 #[iv cc.toInt32, rv a1, rv a2, rv a3, rv a4, iv (i.toInt32 + (1 : Int32)), s6, s7] []))
    rw [inc32 i]
    refine ih (i + 1) T106 h106 (by omega) X106 A1_107 A2_108 ?_ O4_109 RN106 K106
    rw [← dg_inc hc hti]
    exact (A104.other W106 (Ne.symm (r3 _ hti)))
set_option maxRecDepth 65536 in
set_option maxHeartbeats 40000000 in
theorem loop2 {p : Program} {l : Launch} {e : Env} {R : Room} {s : State} {m : MethodId} {args : Array Value} {below : List Frame} {meth : Method} {c : Code} {Z : State} {a0 : Array Value} {n0 kc kn cells slots : Nat} {Q : Option Value → Heap → Prop} (C : Ctx p s m meth c Z a0 tables_1 "com/example/lattis/lattis/Walk" "adjacency" prog_26_method_4_code 8 (some (.array (.array .int)))) (cc n : Nat) (hc : cc ≤ 4) (hn : n ≤ 4) (fs : Nat → Nat) (hfs : ∀ j, j < n → fs j < cc) (ts : Nat → Int32) (a1 a2 a3 : Addr) (h0 : Heap) (g3 : n0 ≤ a3) (old_a3 : h0.size ≤ a3) (n13 : a1 ≠ a3) (n23 : a2 ≠ a3) (a4 : Addr) (g4 : n0 ≤ a4) (old_a4 : h0.size ≤ a4) (n14 : a1 ≠ a4) (n24 : a2 ≠ a4) (n34 : a3 ≠ a4) (s6 s7 : Slot) (hRc : cells + cc ≤ R.cells) (hRs : slots + 4 * cc ≤ R.slots) (hkc : cells + cc ≤ kc) (hkn : slots + 4 * cc ≤ kn) (hQ : ∀ v h, (∃ b rs, v = some (.ref b) ∧ AO Z h b (ouV cc cc rs) ∧ (∀ x, x < cc → AR Z h (rs x) .int ((rowP fs ts n n x).map Value.int)) ∧ Keep h0 h []) → Q v h) : ∀ (k i : Nat) (T : State) (h : Heap) (rs : Nat → Addr), i + k = cc → St p l e R s m args below meth c n0 T h (cells + i) (slots + 4 * i) → AR Z h a1 .int (frV n fs) → AR Z h a2 .int (tsV n ts) → AR Z h a3 .int (dgV cc (d2 fs n i)) → AO Z h a4 (ouV cc i rs) → (∀ x, x < i → AR Z h (rs x) .int ((rowP fs ts n 0 x).map Value.int)) → (∀ x, x < i → n0 ≤ rs x) → (∀ x, x < i → h0.size ≤ rs x) → (∀ x, x < i → rs x ≠ a1) → (∀ x, x < i → rs x ≠ a2) → (∀ x, x < i → rs x ≠ a3) → (∀ x, x < i → rs x ≠ a4) → (∀ x y, x < i → y < i → x ≠ y → rs x ≠ rs y) → Keep h0 h [] →
    Go p e below s n0 kc kn Q (T.setTop (mkF m 52 #[iv cc.toInt32, rv a1, rv a2, rv a3, rv a4, iv i.toInt32, s6, s7] [])) := by
  intro k
  induction k with
  | zero =>
    intro i T h rs hi X A1 A2 A3 O4 RF gr oldr r1 r2 r3 r4 dr KK
    obtain rfl : i = cc := by omega
    show Go p e below s n0 _ _ _ (T.setTop (mkF m 52 #[iv i.toInt32, rv a1, rv a2, rv a3, rv a4, iv i.toInt32, s6, s7] []))
    refine Go.st (fun _ => XS.iload X.here C.hx rfl (hb C.hby d2_52) rfl) ?_
    show Go p e below s n0 _ _ _ (T.setTop (mkF m 54 #[iv i.toInt32, rv a1, rv a2, rv a3, rv a4, iv i.toInt32, s6, s7] [(.int i.toInt32)]))
    refine Go.st (fun _ => XS.iloadN X.here C.hx rfl (hb C.hby d2_54) rfl) ?_
    show Go p e below s n0 _ _ _ (T.setTop (mkF m 55 #[iv i.toInt32, rv a1, rv a2, rv a3, rv a4, iv i.toInt32, s6, s7] [(.int i.toInt32), (.int i.toInt32)]))
    refine Go.icmp_ge C X (pc' := 80) d2_55 (by decide) (by decide) (fun _ => ?_) (fun hc => by first | exact absurd hc (irr _) | exact absurd (irr _) hc)
    show Go p e below s n0 _ _ _ (T.setTop (mkF m 80 #[iv i.toInt32, rv a1, rv a2, rv a3, rv a4, iv i.toInt32, s6, s7] []))
    refine Go.st (fun _ => XS.iconst X.here C.hx rfl (hb C.hby d2_80)) ?_
    show Go p e below s n0 _ _ _ (T.setTop (mkF m 81 #[iv i.toInt32, rv a1, rv a2, rv a3, rv a4, iv i.toInt32, s6, s7] [(.int 0)]))
    refine Go.st (fun _ => XS.istore X.here C.hx rfl (hb C.hby d2_81) rfl (l' := #[iv i.toInt32, rv a1, rv a2, rv a3, rv a4, iv 0, s6, s7]) rfl) ?_
    show Go p e below s n0 _ _ _ (T.setTop (mkF m 83 #[iv i.toInt32, rv a1, rv a2, rv a3, rv a4, iv 0, s6, s7] []))
    exact loop3 C i n hc hn fs hfs ts a1 a2 a3 h0 g3 old_a3 n13 n23 a4 g4 old_a4 n14 n24 n34 s6 s7 rs gr oldr r1 r2 r3 r4 dr hkc hkn hQ n 0 T h (by omega) X A1 A2 (by rw [← d2_end i fs n]; exact A3) O4 RF KK
  | succ k ih =>
    intro i T h rs hi X A1 A2 A3 O4 RF gr oldr r1 r2 r3 r4 dr KK
    have hlt : i.toInt32 < cc.toInt32 := (ltI (by omega) (by omega)).mpr (by omega)
    have hcl := cnt_le fs n i
    show Go p e below s n0 _ _ _ (T.setTop (mkF m 52 #[iv cc.toInt32, rv a1, rv a2, rv a3, rv a4, iv i.toInt32, s6, s7] []))
    refine Go.st (fun _ => XS.iload X.here C.hx rfl (hb C.hby d2_52) rfl) ?_
    show Go p e below s n0 _ _ _ (T.setTop (mkF m 54 #[iv cc.toInt32, rv a1, rv a2, rv a3, rv a4, iv i.toInt32, s6, s7] [(.int i.toInt32)]))
    refine Go.st (fun _ => XS.iloadN X.here C.hx rfl (hb C.hby d2_54) rfl) ?_
    show Go p e below s n0 _ _ _ (T.setTop (mkF m 55 #[iv cc.toInt32, rv a1, rv a2, rv a3, rv a4, iv i.toInt32, s6, s7] [(.int cc.toInt32), (.int i.toInt32)]))
    refine Go.icmp_ge C X (pc' := 80) d2_55 (by decide) (by decide) (fun hc => by first | exact absurd hc hlt | exact absurd hlt hc) (fun _ => ?_)
    show Go p e below s n0 _ _ _ (T.setTop (mkF m 58 #[iv cc.toInt32, rv a1, rv a2, rv a3, rv a4, iv i.toInt32, s6, s7] []))
    refine Go.st (fun _ => XS.aload X.here C.hx rfl (hb C.hby d2_58) rfl rfl) ?_
    show Go p e below s n0 _ _ _ (T.setTop (mkF m 60 #[iv cc.toInt32, rv a1, rv a2, rv a3, rv a4, iv i.toInt32, s6, s7] [(.ref a4)]))
    refine Go.st (fun _ => XS.iload X.here C.hx rfl (hb C.hby d2_60) rfl) ?_
    show Go p e below s n0 _ _ _ (T.setTop (mkF m 62 #[iv cc.toInt32, rv a1, rv a2, rv a3, rv a4, iv i.toInt32, s6, s7] [(.int i.toInt32), (.ref a4)]))
    refine Go.st (fun _ => XS.aloadN X.here C.hx rfl (hb C.hby d2_62) rfl rfl) ?_
    show Go p e below s n0 _ _ _ (T.setTop (mkF m 63 #[iv cc.toInt32, rv a1, rv a2, rv a3, rv a4, iv i.toInt32, s6, s7] [(.ref a3), (.int i.toInt32), (.ref a4)]))
    refine Go.st (fun _ => XS.iload X.here C.hx rfl (hb C.hby d2_63) rfl) ?_
    show Go p e below s n0 _ _ _ (T.setTop (mkF m 65 #[iv cc.toInt32, rv a1, rv a2, rv a3, rv a4, iv i.toInt32, s6, s7] [(.int i.toInt32), (.ref a3), (.int i.toInt32), (.ref a4)]))
    refine Go.iaload C X A3 (nn32 (by omega)) (dg_get hc (by omega)) d2_65 ?_
    show Go p e below s n0 _ _ _ (T.setTop (mkF m 66 #[iv cc.toInt32, rv a1, rv a2, rv a3, rv a4, iv i.toInt32, s6, s7] [(.int (d2 fs n i i).toInt32), (.int i.toInt32), (.ref a4)]))
    refine Go.newPE C X (aty := .int) (cap := 4) (ad := "[I") (wd 4 rfl) (by decide) d2_66 (nn32 (by rw [d2_at]; omega)) (by rw [d2_at, cl32 (by omega)]; omega) (by decide) (by omega) (by omega) (fun T112 h112 b112 g112 ge112 X112 E112 A112 EX112 => ?_)
    have ne_a1_b112 : a1 ≠ b112 := Nat.ne_of_lt (Nat.lt_of_lt_of_le (A1).lt (Nat.le_of_eq g112))
    have ne_a2_b112 : a2 ≠ b112 := Nat.ne_of_lt (Nat.lt_of_lt_of_le (A2).lt (Nat.le_of_eq g112))
    have ne_a3_b112 : a3 ≠ b112 := Nat.ne_of_lt (Nat.lt_of_lt_of_le (A3).lt (Nat.le_of_eq g112))
    have ne_a4_b112 : a4 ≠ b112 := Nat.ne_of_lt (Nat.lt_of_lt_of_le (O4).lt (Nat.le_of_eq g112))
    have K112 : Keep h0 h112 [] := KK.ext E112
    have old_b112 : h0.size ≤ b112 := Nat.le_trans KK.1 (Nat.le_of_eq g112)
    have A_b112 : AR Z h112 b112 .int ((rowP fs ts n 0 i).map Value.int) := (by have u := A112; rw [d2_at, cl32 (by omega)] at u; rw [← row0]; exact u)
    have nrb : ∀ x, x < i → rs x ≠ b112 := fun x hx => Nat.ne_of_lt (Nat.lt_of_lt_of_le (RF x hx).lt (Nat.le_of_eq g112))
    show Go p e below s n0 _ _ _ (T112.setTop (mkF m 68 #[iv cc.toInt32, rv a1, rv a2, rv a3, rv a4, iv i.toInt32, s6, s7] [(.ref b112), (.int i.toInt32), (.ref a4)]))
    refine Go.aastore C X112 (O4.ext E112) EX112 (nn32 (by omega)) (by rw [ou_len, cl32 (by omega)]; omega) g4 d2_68 (fun T113 h113 X113 W113 O113 => ?_)
    have RF_114 : ∀ x, x < i → AR Z h113 (rs x) .int ((rowP fs ts n 0 x).map Value.int) := (fun x hx => ((fun x hx => (RF x hx).ext E112) x hx).other W113 (r4 x hx))
    have K113 : Keep h0 h113 [] := K112.wr W113 (Or.inr old_a4)
    show Go p e below s n0 _ _ _ (T113.setTop (mkF m 69 #[iv cc.toInt32, rv a1, rv a2, rv a3, rv a4, iv i.toInt32, s6, s7] []))
    refine Go.st (fun _ => XS.aloadN X113.here C.hx rfl (hb C.hby d2_69) rfl rfl) ?_
    show Go p e below s n0 _ _ _ (T113.setTop (mkF m 70 #[iv cc.toInt32, rv a1, rv a2, rv a3, rv a4, iv i.toInt32, s6, s7] [(.ref a3)]))
    refine Go.st (fun _ => XS.iload X113.here C.hx rfl (hb C.hby d2_70) rfl) ?_
    show Go p e below s n0 _ _ _ (T113.setTop (mkF m 72 #[iv cc.toInt32, rv a1, rv a2, rv a3, rv a4, iv i.toInt32, s6, s7] [(.int i.toInt32), (.ref a3)]))
    refine Go.st (fun _ => XS.iconst X113.here C.hx rfl (hb C.hby d2_72)) ?_
    show Go p e below s n0 _ _ _ (T113.setTop (mkF m 73 #[iv cc.toInt32, rv a1, rv a2, rv a3, rv a4, iv i.toInt32, s6, s7] [(.int 0), (.int i.toInt32), (.ref a3)]))
    refine Go.iastore C X113 ((A3.ext E112).other W113 n34) (nn32 (by omega)) (by rw [dg_len, cl32 (by omega)]; omega) g3 d2_73 (fun T115 h115 X115 W115 A115 => ?_)
    have A1_116 : AR Z h115 a1 .int (frV n fs) := (((A1.ext E112).other W113 n14).other W115 n13)
    have A2_117 : AR Z h115 a2 .int (tsV n ts) := (((A2.ext E112).other W113 n24).other W115 n23)
    have RF_118 : ∀ x, x < i → AR Z h115 (rs x) .int ((rowP fs ts n 0 x).map Value.int) := (fun x hx => (RF_114 x hx).other W115 (r3 x hx))
    have A_b112_119 : AR Z h115 b112 .int ((rowP fs ts n 0 i).map Value.int) := ((A_b112.other W113 (Ne.symm ne_a4_b112)).other W115 (Ne.symm ne_a3_b112))
    have K115 : Keep h0 h115 [] := K113.wr W115 (Or.inr old_a3)
    show Go p e below s n0 _ _ _ (T115.setTop (mkF m 74 #[iv cc.toInt32, rv a1, rv a2, rv a3, rv a4, iv i.toInt32, s6, s7] []))
    refine Go.st (fun _ => XS.iinc X115.here C.hx rfl (hb C.hby d2_74) rfl (l' := #[iv cc.toInt32, rv a1, rv a2, rv a3, rv a4, iv (i.toInt32 + (1 : Int32)), s6, s7]) rfl) ?_
    show Go p e below s n0 _ _ _ (T115.setTop (mkF m 77 #[iv cc.toInt32, rv a1, rv a2, rv a3, rv a4, iv (i.toInt32 + (1 : Int32)), s6, s7] []))
    refine Go.st (fun _ => XS.goto X115.here C.hx rfl (pc0 := 77) (pc' := 52) rfl (hb C.hby d2_77) (by decide) (by decide)) ?_
    show Go p e below s n0 _ _ _ (T115.setTop (mkF m 52 #[iv cc.toInt32, rv a1, rv a2, rv a3, rv a4, iv (i.toInt32 + (1 : Int32)), s6, s7] []))
    rw [inc32 i]
    refine ih (i + 1) T115 h115 (upd rs i b112) (by omega) (X115.mono (by omega) (by omega)) A1_116 A2_117 ?_ ?_ ?_ (upd_all (P := fun z => n0 ≤ z) gr ge112) (upd_all (P := fun z => h0.size ≤ z) oldr old_b112) (upd_all (P := fun z => z ≠ a1) r1 (Ne.symm ne_a1_b112)) (upd_all (P := fun z => z ≠ a2) r2 (Ne.symm ne_a2_b112)) (upd_all (P := fun z => z ≠ a3) r3 (Ne.symm ne_a3_b112)) (upd_all (P := fun z => z ≠ a4) r4 (Ne.symm ne_a4_b112)) (upd_dr dr nrb) K115
    · rw [← dg_clear hc (by omega)]; exact A115
    · rw [← ou_set hc (by omega)]; exact (O113.other W115 (Ne.symm n34))
    · exact upd_rows RF_118 A_b112_119
set_option maxRecDepth 65536 in
set_option maxHeartbeats 40000000 in
theorem loop1 {p : Program} {l : Launch} {e : Env} {R : Room} {s : State} {m : MethodId} {args : Array Value} {below : List Frame} {meth : Method} {c : Code} {Z : State} {a0 : Array Value} {n0 kc kn cells slots : Nat} {Q : Option Value → Heap → Prop} (C : Ctx p s m meth c Z a0 tables_1 "com/example/lattis/lattis/Walk" "adjacency" prog_26_method_4_code 8 (some (.array (.array .int)))) (cc n : Nat) (hc : cc ≤ 4) (hn : n ≤ 4) (fs : Nat → Nat) (hfs : ∀ j, j < n → fs j < cc) (ts : Nat → Int32) (a1 a2 a3 : Addr) (h0 : Heap) (g3 : n0 ≤ a3) (old_a3 : h0.size ≤ a3) (n13 : a1 ≠ a3) (n23 : a2 ≠ a3) (hRc : cells + 1 + cc ≤ R.cells) (hRs : slots + 4 + 4 * cc ≤ R.slots) (hkc : cells + 1 + cc ≤ kc) (hkn : slots + 4 + 4 * cc ≤ kn) (hQ : ∀ v h, (∃ b rs, v = some (.ref b) ∧ AO Z h b (ouV cc cc rs) ∧ (∀ x, x < cc → AR Z h (rs x) .int ((rowP fs ts n n x).map Value.int)) ∧ Keep h0 h []) → Q v h) : ∀ (k i : Nat) (T : State) (h : Heap) (s7 : Slot), (s7 = .unset ∨ ∃ z, s7 = .val (.int z)) → i + k = n → St p l e R s m args below meth c n0 T h cells slots → AR Z h a1 .int (frV n fs) → AR Z h a2 .int (tsV n ts) → AR Z h a3 .int (dgV cc (cnt fs i)) → Keep h0 h [] →
    Go p e below s n0 kc kn Q (T.setTop (mkF m 15 #[iv cc.toInt32, rv a1, rv a2, rv a3, rv a1, iv n.toInt32, iv i.toInt32, s7] [])) := by
  intro k
  induction k with
  | zero =>
    intro i T h s7 h7 hi X A1 A2 A3 KK
    obtain rfl : i = n := by omega
    show Go p e below s n0 _ _ _ (T.setTop (mkF m 15 #[iv cc.toInt32, rv a1, rv a2, rv a3, rv a1, iv i.toInt32, iv i.toInt32, s7] []))
    refine Go.st (fun _ => XS.iload X.here C.hx rfl (hb C.hby d2_15) rfl) ?_
    show Go p e below s n0 _ _ _ (T.setTop (mkF m 17 #[iv cc.toInt32, rv a1, rv a2, rv a3, rv a1, iv i.toInt32, iv i.toInt32, s7] [(.int i.toInt32)]))
    refine Go.st (fun _ => XS.iload X.here C.hx rfl (hb C.hby d2_17) rfl) ?_
    show Go p e below s n0 _ _ _ (T.setTop (mkF m 19 #[iv cc.toInt32, rv a1, rv a2, rv a3, rv a1, iv i.toInt32, iv i.toInt32, s7] [(.int i.toInt32), (.int i.toInt32)]))
    refine Go.icmp_ge C X (pc' := 43) d2_19 (by decide) (by decide) (fun _ => ?_) (fun hc => by first | exact absurd hc (irr _) | exact absurd (irr _) hc)
    show Go p e below s n0 _ _ _ (T.setTop (mkF m 43 #[iv cc.toInt32, rv a1, rv a2, rv a3, rv a1, iv i.toInt32, iv i.toInt32, s7] []))
    refine Go.st (fun _ => XS.iloadN X.here C.hx rfl (hb C.hby d2_43) rfl) ?_
    show Go p e below s n0 _ _ _ (T.setTop (mkF m 44 #[iv cc.toInt32, rv a1, rv a2, rv a3, rv a1, iv i.toInt32, iv i.toInt32, s7] [(.int cc.toInt32)]))
    refine Go.newRA C X (cap := 4) (wd 9 rfl) (wd 10 rfl) d2_44 (nn32 (by omega)) (by rw [cl32 (by omega)]; omega) (by decide) (by omega) (by omega) (fun T121 h121 b121 g121 ge121 X121 E121 O121 => ?_)
    have ne_a1_b121 : a1 ≠ b121 := Nat.ne_of_lt (Nat.lt_of_lt_of_le (A1).lt (Nat.le_of_eq g121))
    have ne_a2_b121 : a2 ≠ b121 := Nat.ne_of_lt (Nat.lt_of_lt_of_le (A2).lt (Nat.le_of_eq g121))
    have ne_a3_b121 : a3 ≠ b121 := Nat.ne_of_lt (Nat.lt_of_lt_of_le (A3).lt (Nat.le_of_eq g121))
    have K121 : Keep h0 h121 [] := KK.ext E121
    have old_b121 : h0.size ≤ b121 := Nat.le_trans KK.1 (Nat.le_of_eq g121)
    have O_b121 : AO Z h121 b121 (List.replicate cc .null) := (by have u := O121; rw [cl32 (by omega)] at u; exact u)
    show Go p e below s n0 _ _ _ (T121.setTop (mkF m 47 #[iv cc.toInt32, rv a1, rv a2, rv a3, rv a1, iv i.toInt32, iv i.toInt32, s7] [(.ref b121)]))
    refine Go.st (fun _ => XS.astore X121.here C.hx rfl (hb C.hby d2_47) rfl rfl (l' := #[iv cc.toInt32, rv a1, rv a2, rv a3, rv b121, iv i.toInt32, iv i.toInt32, s7]) rfl) ?_
    show Go p e below s n0 _ _ _ (T121.setTop (mkF m 49 #[iv cc.toInt32, rv a1, rv a2, rv a3, rv b121, iv i.toInt32, iv i.toInt32, s7] []))
    refine Go.st (fun _ => XS.iconst X121.here C.hx rfl (hb C.hby d2_49)) ?_
    show Go p e below s n0 _ _ _ (T121.setTop (mkF m 50 #[iv cc.toInt32, rv a1, rv a2, rv a3, rv b121, iv i.toInt32, iv i.toInt32, s7] [(.int 0)]))
    refine Go.st (fun _ => XS.istore X121.here C.hx rfl (hb C.hby d2_50) rfl (l' := #[iv cc.toInt32, rv a1, rv a2, rv a3, rv b121, iv 0, iv i.toInt32, s7]) rfl) ?_
    have rs0 : Nat → Addr := fun _ => 0
    show Go p e below s n0 _ _ _ (T121.setTop (mkF m 52 #[iv cc.toInt32, rv a1, rv a2, rv a3, rv b121, iv 0, iv i.toInt32, s7] []))
    exact loop2 C cc i hc hn fs hfs ts a1 a2 a3 h0 g3 old_a3 n13 n23 b121 ge121 old_b121 ne_a1_b121 ne_a2_b121 ne_a3_b121 _ _ hRc hRs hkc hkn hQ cc 0 T121 h121 rs0 (by omega) X121 (A1.ext E121) (A2.ext E121) (A3.ext E121) (by rw [← ou_zero]; exact O_b121) (fun x hx => absurd hx (by omega)) (fun x hx => absurd hx (by omega)) (fun x hx => absurd hx (by omega)) (fun x hx => absurd hx (by omega)) (fun x hx => absurd hx (by omega)) (fun x hx => absurd hx (by omega)) (fun x hx => absurd hx (by omega)) (fun x y hx => absurd hx (by omega)) K121
  | succ k ih =>
    intro i T h s7 h7 hi X A1 A2 A3 KK
    have hlt : i.toInt32 < n.toInt32 := (ltI (by omega) (by omega)).mpr (by omega)
    have hti : fs i < cc := hfs i (by omega)
    rcases h7 with rfl | ⟨z7, rfl⟩
    · show Go p e below s n0 _ _ _ (T.setTop (mkF m 15 #[iv cc.toInt32, rv a1, rv a2, rv a3, rv a1, iv n.toInt32, iv i.toInt32, .unset] []))
      refine Go.st (fun _ => XS.iload X.here C.hx rfl (hb C.hby d2_15) rfl) ?_
      show Go p e below s n0 _ _ _ (T.setTop (mkF m 17 #[iv cc.toInt32, rv a1, rv a2, rv a3, rv a1, iv n.toInt32, iv i.toInt32, .unset] [(.int i.toInt32)]))
      refine Go.st (fun _ => XS.iload X.here C.hx rfl (hb C.hby d2_17) rfl) ?_
      show Go p e below s n0 _ _ _ (T.setTop (mkF m 19 #[iv cc.toInt32, rv a1, rv a2, rv a3, rv a1, iv n.toInt32, iv i.toInt32, .unset] [(.int n.toInt32), (.int i.toInt32)]))
      refine Go.icmp_ge C X (pc' := 43) d2_19 (by decide) (by decide) (fun hc => by first | exact absurd hc hlt | exact absurd hlt hc) (fun _ => ?_)
      show Go p e below s n0 _ _ _ (T.setTop (mkF m 22 #[iv cc.toInt32, rv a1, rv a2, rv a3, rv a1, iv n.toInt32, iv i.toInt32, .unset] []))
      refine Go.st (fun _ => XS.aload X.here C.hx rfl (hb C.hby d2_22) rfl rfl) ?_
      show Go p e below s n0 _ _ _ (T.setTop (mkF m 24 #[iv cc.toInt32, rv a1, rv a2, rv a3, rv a1, iv n.toInt32, iv i.toInt32, .unset] [(.ref a1)]))
      refine Go.st (fun _ => XS.iload X.here C.hx rfl (hb C.hby d2_24) rfl) ?_
      show Go p e below s n0 _ _ _ (T.setTop (mkF m 26 #[iv cc.toInt32, rv a1, rv a2, rv a3, rv a1, iv n.toInt32, iv i.toInt32, .unset] [(.int i.toInt32), (.ref a1)]))
      refine Go.iaload C X A1 (nn32 (by omega)) (fr_get hn (by omega)) d2_26 ?_
      show Go p e below s n0 _ _ _ (T.setTop (mkF m 27 #[iv cc.toInt32, rv a1, rv a2, rv a3, rv a1, iv n.toInt32, iv i.toInt32, .unset] [(.int (fs i).toInt32)]))
      refine Go.st (fun _ => XS.istore X.here C.hx rfl (hb C.hby d2_27) rfl (l' := #[iv cc.toInt32, rv a1, rv a2, rv a3, rv a1, iv n.toInt32, iv i.toInt32, iv (fs i).toInt32]) rfl) ?_
      show Go p e below s n0 _ _ _ (T.setTop (mkF m 29 #[iv cc.toInt32, rv a1, rv a2, rv a3, rv a1, iv n.toInt32, iv i.toInt32, iv (fs i).toInt32] []))
      refine Go.st (fun _ => XS.aloadN X.here C.hx rfl (hb C.hby d2_29) rfl rfl) ?_
      show Go p e below s n0 _ _ _ (T.setTop (mkF m 30 #[iv cc.toInt32, rv a1, rv a2, rv a3, rv a1, iv n.toInt32, iv i.toInt32, iv (fs i).toInt32] [(.ref a3)]))
      refine Go.st (fun _ => XS.iload X.here C.hx rfl (hb C.hby d2_30) rfl) ?_
      show Go p e below s n0 _ _ _ (T.setTop (mkF m 32 #[iv cc.toInt32, rv a1, rv a2, rv a3, rv a1, iv n.toInt32, iv i.toInt32, iv (fs i).toInt32] [(.int (fs i).toInt32), (.ref a3)]))
      refine Go.st (fun _ => XT.dup2 X.here C.hx rfl (hb C.hby d2_32) rfl rfl rfl) ?_
      show Go p e below s n0 _ _ _ (T.setTop (mkF m 33 #[iv cc.toInt32, rv a1, rv a2, rv a3, rv a1, iv n.toInt32, iv i.toInt32, iv (fs i).toInt32] [(.int (fs i).toInt32), (.ref a3), (.int (fs i).toInt32), (.ref a3)]))
      refine Go.iaload C X A3 (nn32 (by omega)) (dg_get hc hti) d2_33 ?_
      show Go p e below s n0 _ _ _ (T.setTop (mkF m 34 #[iv cc.toInt32, rv a1, rv a2, rv a3, rv a1, iv n.toInt32, iv i.toInt32, iv (fs i).toInt32] [(.int (cnt fs i (fs i)).toInt32), (.int (fs i).toInt32), (.ref a3)]))
      refine Go.st (fun _ => XS.iconst X.here C.hx rfl (hb C.hby d2_34)) ?_
      show Go p e below s n0 _ _ _ (T.setTop (mkF m 35 #[iv cc.toInt32, rv a1, rv a2, rv a3, rv a1, iv n.toInt32, iv i.toInt32, iv (fs i).toInt32] [(.int 1), (.int (cnt fs i (fs i)).toInt32), (.int (fs i).toInt32), (.ref a3)]))
      refine Go.st (fun _ => XS.iadd X.here C.hx rfl (hb C.hby d2_35) rfl) ?_
      show Go p e below s n0 _ _ _ (T.setTop (mkF m 36 #[iv cc.toInt32, rv a1, rv a2, rv a3, rv a1, iv n.toInt32, iv i.toInt32, iv (fs i).toInt32] [(.int ((cnt fs i (fs i)).toInt32 + (1 : Int32))), (.int (fs i).toInt32), (.ref a3)]))
      refine Go.iastore C X A3 (nn32 (by omega)) (by rw [dg_len, cl32 (by omega)]; omega) g3 d2_36 (fun T123 h123 X123 W123 A123 => ?_)
      have K123 : Keep h0 h123 [] := KK.wr W123 (Or.inr old_a3)
      show Go p e below s n0 _ _ _ (T123.setTop (mkF m 37 #[iv cc.toInt32, rv a1, rv a2, rv a3, rv a1, iv n.toInt32, iv i.toInt32, iv (fs i).toInt32] []))
      refine Go.st (fun _ => XS.iinc X123.here C.hx rfl (hb C.hby d2_37) rfl (l' := #[iv cc.toInt32, rv a1, rv a2, rv a3, rv a1, iv n.toInt32, iv (i.toInt32 + (1 : Int32)), iv (fs i).toInt32]) rfl) ?_
      show Go p e below s n0 _ _ _ (T123.setTop (mkF m 40 #[iv cc.toInt32, rv a1, rv a2, rv a3, rv a1, iv n.toInt32, iv (i.toInt32 + (1 : Int32)), iv (fs i).toInt32] []))
      refine Go.st (fun _ => XS.goto X123.here C.hx rfl (pc0 := 40) (pc' := 15) rfl (hb C.hby d2_40) (by decide) (by decide)) ?_
      show Go p e below s n0 _ _ _ (T123.setTop (mkF m 15 #[iv cc.toInt32, rv a1, rv a2, rv a3, rv a1, iv n.toInt32, iv (i.toInt32 + (1 : Int32)), iv (fs i).toInt32] []))
      rw [inc32 i]
      refine ih (i + 1) T123 h123 _ (Or.inr ⟨_, rfl⟩) (by omega) X123 (A1.other W123 n13) (A2.other W123 n23) ?_ K123
      rw [← dg_inc hc hti]
      exact A123
    · show Go p e below s n0 _ _ _ (T.setTop (mkF m 15 #[iv cc.toInt32, rv a1, rv a2, rv a3, rv a1, iv n.toInt32, iv i.toInt32, iv z7] []))
      refine Go.st (fun _ => XS.iload X.here C.hx rfl (hb C.hby d2_15) rfl) ?_
      show Go p e below s n0 _ _ _ (T.setTop (mkF m 17 #[iv cc.toInt32, rv a1, rv a2, rv a3, rv a1, iv n.toInt32, iv i.toInt32, iv z7] [(.int i.toInt32)]))
      refine Go.st (fun _ => XS.iload X.here C.hx rfl (hb C.hby d2_17) rfl) ?_
      show Go p e below s n0 _ _ _ (T.setTop (mkF m 19 #[iv cc.toInt32, rv a1, rv a2, rv a3, rv a1, iv n.toInt32, iv i.toInt32, iv z7] [(.int n.toInt32), (.int i.toInt32)]))
      refine Go.icmp_ge C X (pc' := 43) d2_19 (by decide) (by decide) (fun hc => by first | exact absurd hc hlt | exact absurd hlt hc) (fun _ => ?_)
      show Go p e below s n0 _ _ _ (T.setTop (mkF m 22 #[iv cc.toInt32, rv a1, rv a2, rv a3, rv a1, iv n.toInt32, iv i.toInt32, iv z7] []))
      refine Go.st (fun _ => XS.aload X.here C.hx rfl (hb C.hby d2_22) rfl rfl) ?_
      show Go p e below s n0 _ _ _ (T.setTop (mkF m 24 #[iv cc.toInt32, rv a1, rv a2, rv a3, rv a1, iv n.toInt32, iv i.toInt32, iv z7] [(.ref a1)]))
      refine Go.st (fun _ => XS.iload X.here C.hx rfl (hb C.hby d2_24) rfl) ?_
      show Go p e below s n0 _ _ _ (T.setTop (mkF m 26 #[iv cc.toInt32, rv a1, rv a2, rv a3, rv a1, iv n.toInt32, iv i.toInt32, iv z7] [(.int i.toInt32), (.ref a1)]))
      refine Go.iaload C X A1 (nn32 (by omega)) (fr_get hn (by omega)) d2_26 ?_
      show Go p e below s n0 _ _ _ (T.setTop (mkF m 27 #[iv cc.toInt32, rv a1, rv a2, rv a3, rv a1, iv n.toInt32, iv i.toInt32, iv z7] [(.int (fs i).toInt32)]))
      refine Go.st (fun _ => XS.istore X.here C.hx rfl (hb C.hby d2_27) rfl (l' := #[iv cc.toInt32, rv a1, rv a2, rv a3, rv a1, iv n.toInt32, iv i.toInt32, iv (fs i).toInt32]) rfl) ?_
      show Go p e below s n0 _ _ _ (T.setTop (mkF m 29 #[iv cc.toInt32, rv a1, rv a2, rv a3, rv a1, iv n.toInt32, iv i.toInt32, iv (fs i).toInt32] []))
      refine Go.st (fun _ => XS.aloadN X.here C.hx rfl (hb C.hby d2_29) rfl rfl) ?_
      show Go p e below s n0 _ _ _ (T.setTop (mkF m 30 #[iv cc.toInt32, rv a1, rv a2, rv a3, rv a1, iv n.toInt32, iv i.toInt32, iv (fs i).toInt32] [(.ref a3)]))
      refine Go.st (fun _ => XS.iload X.here C.hx rfl (hb C.hby d2_30) rfl) ?_
      show Go p e below s n0 _ _ _ (T.setTop (mkF m 32 #[iv cc.toInt32, rv a1, rv a2, rv a3, rv a1, iv n.toInt32, iv i.toInt32, iv (fs i).toInt32] [(.int (fs i).toInt32), (.ref a3)]))
      refine Go.st (fun _ => XT.dup2 X.here C.hx rfl (hb C.hby d2_32) rfl rfl rfl) ?_
      show Go p e below s n0 _ _ _ (T.setTop (mkF m 33 #[iv cc.toInt32, rv a1, rv a2, rv a3, rv a1, iv n.toInt32, iv i.toInt32, iv (fs i).toInt32] [(.int (fs i).toInt32), (.ref a3), (.int (fs i).toInt32), (.ref a3)]))
      refine Go.iaload C X A3 (nn32 (by omega)) (dg_get hc hti) d2_33 ?_
      show Go p e below s n0 _ _ _ (T.setTop (mkF m 34 #[iv cc.toInt32, rv a1, rv a2, rv a3, rv a1, iv n.toInt32, iv i.toInt32, iv (fs i).toInt32] [(.int (cnt fs i (fs i)).toInt32), (.int (fs i).toInt32), (.ref a3)]))
      refine Go.st (fun _ => XS.iconst X.here C.hx rfl (hb C.hby d2_34)) ?_
      show Go p e below s n0 _ _ _ (T.setTop (mkF m 35 #[iv cc.toInt32, rv a1, rv a2, rv a3, rv a1, iv n.toInt32, iv i.toInt32, iv (fs i).toInt32] [(.int 1), (.int (cnt fs i (fs i)).toInt32), (.int (fs i).toInt32), (.ref a3)]))
      refine Go.st (fun _ => XS.iadd X.here C.hx rfl (hb C.hby d2_35) rfl) ?_
      show Go p e below s n0 _ _ _ (T.setTop (mkF m 36 #[iv cc.toInt32, rv a1, rv a2, rv a3, rv a1, iv n.toInt32, iv i.toInt32, iv (fs i).toInt32] [(.int ((cnt fs i (fs i)).toInt32 + (1 : Int32))), (.int (fs i).toInt32), (.ref a3)]))
      refine Go.iastore C X A3 (nn32 (by omega)) (by rw [dg_len, cl32 (by omega)]; omega) g3 d2_36 (fun T125 h125 X125 W125 A125 => ?_)
      have K125 : Keep h0 h125 [] := KK.wr W125 (Or.inr old_a3)
      show Go p e below s n0 _ _ _ (T125.setTop (mkF m 37 #[iv cc.toInt32, rv a1, rv a2, rv a3, rv a1, iv n.toInt32, iv i.toInt32, iv (fs i).toInt32] []))
      refine Go.st (fun _ => XS.iinc X125.here C.hx rfl (hb C.hby d2_37) rfl (l' := #[iv cc.toInt32, rv a1, rv a2, rv a3, rv a1, iv n.toInt32, iv (i.toInt32 + (1 : Int32)), iv (fs i).toInt32]) rfl) ?_
      show Go p e below s n0 _ _ _ (T125.setTop (mkF m 40 #[iv cc.toInt32, rv a1, rv a2, rv a3, rv a1, iv n.toInt32, iv (i.toInt32 + (1 : Int32)), iv (fs i).toInt32] []))
      refine Go.st (fun _ => XS.goto X125.here C.hx rfl (pc0 := 40) (pc' := 15) rfl (hb C.hby d2_40) (by decide) (by decide)) ?_
      show Go p e below s n0 _ _ _ (T125.setTop (mkF m 15 #[iv cc.toInt32, rv a1, rv a2, rv a3, rv a1, iv n.toInt32, iv (i.toInt32 + (1 : Int32)), iv (fs i).toInt32] []))
      rw [inc32 i]
      refine ih (i + 1) T125 h125 _ (Or.inr ⟨_, rfl⟩) (by omega) X125 (A1.other W125 n13) (A2.other W125 n23) ?_ K125
      rw [← dg_inc hc hti]
      exact A125
set_option maxRecDepth 65536 in
set_option maxHeartbeats 40000000 in
theorem con_adj (l : Launch) (Z : State) (a0 : Array Value) (hw : ∀ d ∈ tables_1, d.before a0 Z = true) (n0 : Nat) (h0 : Heap) (Z0 : n0 ≤ h0.size) (cc n : Nat) (fs : Nat → Nat) (ts : Nat → Int32) (a1 a2 : Addr) (hc : cc ≤ 4) (hn : n ≤ 4) (hfs : ∀ j, j < n → fs j < cc) (A1 : AR Z h0 a1 .int (frV n fs)) (A2 : AR Z h0 a2 .int (tsV n ts)) :
    Con l Z (⟨"com/example/lattis/lattis/Walk", "adjacency", "(I[I[I)[[I"⟩ : MethodName) prog_26_method_4_code 8 (some (.array (.array .int))) [] ({ frames := 0, cells := 6, slots := 24, locals := 0 } : Room) n0 #[(.int cc.toInt32), (.ref a1), (.ref a2)] h0 (fun v h => ∃ b rs, v = some (.ref b) ∧ AO Z h b (ouV cc cc rs) ∧ (∀ x, x < cc → AR Z h (rs x) .int ((rowP fs ts n n x).map Value.int)) ∧ Keep h0 h []) := by
  refine Con.mk pf_2 hw Z0 ?_
  intro p e s m below meth c T0 C X0
  have ef : entryFrame m #[(.int cc.toInt32), (.ref a1), (.ref a2)] 8 = mkF m 0 #[iv cc.toInt32, rv a1, rv a2, .unset, .unset, .unset, .unset, .unset] [] := by first | (simp [entryFrame, mkF, argsToLocals, Value.category]; done) | rfl
  rw [ef]
  show Go p e below s n0 _ _ _ (T0.setTop (mkF m 0 #[iv cc.toInt32, rv a1, rv a2, .unset, .unset, .unset, .unset, .unset] []))
  refine Go.st (fun _ => XS.iloadN X0.here C.hx rfl (hb C.hby d2_0) rfl) ?_
  show Go p e below s n0 _ _ _ (T0.setTop (mkF m 1 #[iv cc.toInt32, rv a1, rv a2, .unset, .unset, .unset, .unset, .unset] [(.int cc.toInt32)]))
  refine Go.newP C X0 (aty := .int) (cap := 4) (wd 4 rfl) d2_1 (nn32 (by omega)) (by rw [cl32 (by omega)]; omega) (by decide) (by decide) (by decide) (fun T126 h126 b126 g126 ge126 X126 E126 A126 => ?_)
  have ne_a1_b126 : a1 ≠ b126 := Nat.ne_of_lt (Nat.lt_of_lt_of_le (A1).lt (Nat.le_of_eq g126))
  have ne_a2_b126 : a2 ≠ b126 := Nat.ne_of_lt (Nat.lt_of_lt_of_le (A2).lt (Nat.le_of_eq g126))
  have K126 : Keep h0 h126 [] := (Keep.refl h0 []).ext E126
  have old_b126 : h0.size ≤ b126 := Nat.le_trans (Keep.refl h0 []).1 (Nat.le_of_eq g126)
  show Go p e below s n0 _ _ _ (T126.setTop (mkF m 3 #[iv cc.toInt32, rv a1, rv a2, .unset, .unset, .unset, .unset, .unset] [(.ref b126)]))
  refine Go.st (fun _ => XS.astoreN X126.here C.hx rfl (hb C.hby d2_3) rfl rfl (l' := #[iv cc.toInt32, rv a1, rv a2, rv b126, .unset, .unset, .unset, .unset]) rfl) ?_
  show Go p e below s n0 _ _ _ (T126.setTop (mkF m 4 #[iv cc.toInt32, rv a1, rv a2, rv b126, .unset, .unset, .unset, .unset] []))
  refine Go.st (fun _ => XS.aloadN X126.here C.hx rfl (hb C.hby d2_4) rfl rfl) ?_
  show Go p e below s n0 _ _ _ (T126.setTop (mkF m 5 #[iv cc.toInt32, rv a1, rv a2, rv b126, .unset, .unset, .unset, .unset] [(.ref a1)]))
  refine Go.st (fun _ => XS.astore X126.here C.hx rfl (hb C.hby d2_5) rfl rfl (l' := #[iv cc.toInt32, rv a1, rv a2, rv b126, rv a1, .unset, .unset, .unset]) rfl) ?_
  show Go p e below s n0 _ _ _ (T126.setTop (mkF m 7 #[iv cc.toInt32, rv a1, rv a2, rv b126, rv a1, .unset, .unset, .unset] []))
  refine Go.st (fun _ => XS.aload X126.here C.hx rfl (hb C.hby d2_7) rfl rfl) ?_
  show Go p e below s n0 _ _ _ (T126.setTop (mkF m 9 #[iv cc.toInt32, rv a1, rv a2, rv b126, rv a1, .unset, .unset, .unset] [(.ref a1)]))
  refine Go.alen C X126 (A1.ext E126) (z := n.toInt32) (by rw [fr_len]) d2_9 ?_
  show Go p e below s n0 _ _ _ (T126.setTop (mkF m 10 #[iv cc.toInt32, rv a1, rv a2, rv b126, rv a1, .unset, .unset, .unset] [(.int n.toInt32)]))
  refine Go.st (fun _ => XS.istore X126.here C.hx rfl (hb C.hby d2_10) rfl (l' := #[iv cc.toInt32, rv a1, rv a2, rv b126, rv a1, iv n.toInt32, .unset, .unset]) rfl) ?_
  show Go p e below s n0 _ _ _ (T126.setTop (mkF m 12 #[iv cc.toInt32, rv a1, rv a2, rv b126, rv a1, iv n.toInt32, .unset, .unset] []))
  refine Go.st (fun _ => XS.iconst X126.here C.hx rfl (hb C.hby d2_12)) ?_
  show Go p e below s n0 _ _ _ (T126.setTop (mkF m 13 #[iv cc.toInt32, rv a1, rv a2, rv b126, rv a1, iv n.toInt32, .unset, .unset] [(.int 0)]))
  refine Go.st (fun _ => XS.istore X126.here C.hx rfl (hb C.hby d2_13) rfl (l' := #[iv cc.toInt32, rv a1, rv a2, rv b126, rv a1, iv n.toInt32, iv 0, .unset]) rfl) ?_
  show Go p e below s n0 _ _ _ (T126.setTop (mkF m 15 #[iv cc.toInt32, rv a1, rv a2, rv b126, rv a1, iv n.toInt32, iv 0, .unset] []))
  exact loop1 C cc n hc hn fs hfs ts a1 a2 b126 h0 ge126 old_b126 ne_a1_b126 ne_a2_b126 (by show 0 + 1 + 1 + cc ≤ 6; omega) (by show 0 + 4 + 4 + 4 * cc ≤ 24; omega) (by show 0 + 1 + 1 + cc ≤ 6; omega) (by show 0 + 4 + 4 + 4 * cc ≤ 24; omega) (fun v h q => q) n 0 T126 h126 _ (Or.inl rfl) (by omega) X126 (A1.ext E126) (A2.ext E126) (by rw [← dg_zero]; have u := A126; rw [cl32 (by omega)] at u; exact u) K126
-- END ADJ
def fsF (g0 g1 g2 g3 : Nat) : Nat → Nat := fun j => [g0, g1, g2, g3].getD j 0
def tsF (t0 t1 t2 t3 : Int32) : Nat → Int32 := fun j => [t0, t1, t2, t3].getD j 0
theorem fsF0 (g0 g1 g2 g3 : Nat) : fsF g0 g1 g2 g3 0 = g0 := rfl
theorem tsF0 (t0 t1 t2 t3 : Int32) : tsF t0 t1 t2 t3 0 = t0 := rfl
theorem fsF1 (g0 g1 g2 g3 : Nat) : fsF g0 g1 g2 g3 1 = g1 := rfl
theorem tsF1 (t0 t1 t2 t3 : Int32) : tsF t0 t1 t2 t3 1 = t1 := rfl
theorem fsF2 (g0 g1 g2 g3 : Nat) : fsF g0 g1 g2 g3 2 = g2 := rfl
theorem tsF2 (t0 t1 t2 t3 : Int32) : tsF t0 t1 t2 t3 2 = t2 := rfl
theorem fsF3 (g0 g1 g2 g3 : Nat) : fsF g0 g1 g2 g3 3 = g3 := rfl
theorem tsF3 (t0 t1 t2 t3 : Int32) : tsF t0 t1 t2 t3 3 = t3 := rfl
theorem d3_0 : decode method_2_code 0 = .ok (.iconst 4, 1) := by decide +kernel
theorem d3_1 : decode method_2_code 1 = .ok (.newarray .int, 2) := by decide +kernel
theorem d3_3 : decode method_2_code 3 = .ok (.astore 5, 2) := by decide +kernel
theorem d3_5 : decode method_2_code 5 = .ok (.iconst 0, 1) := by decide +kernel
theorem d3_6 : decode method_2_code 6 = .ok (.istore 6, 2) := by decide +kernel
theorem d3_8 : decode method_2_code 8 = .ok (.iload_n 2, 1) := by decide +kernel
theorem d3_9 : decode method_2_code 9 = .ok (.ifCond .le 22, 3) := by decide +kernel
theorem d3_12 : decode method_2_code 12 = .ok (.aload_n 3, 1) := by decide +kernel
theorem d3_13 : decode method_2_code 13 = .ok (.iconst 0, 1) := by decide +kernel
theorem d3_14 : decode method_2_code 14 = .ok (.iaload, 1) := by decide +kernel
theorem d3_15 : decode method_2_code 15 = .ok (.iload_n 1, 1) := by decide +kernel
theorem d3_16 : decode method_2_code 16 = .ok (.if_icmp .ne 15, 3) := by decide +kernel
theorem d3_19 : decode method_2_code 19 = .ok (.aload 5, 2) := by decide +kernel
theorem d3_21 : decode method_2_code 21 = .ok (.iload 6, 2) := by decide +kernel
theorem d3_23 : decode method_2_code 23 = .ok (.aload 4, 2) := by decide +kernel
theorem d3_25 : decode method_2_code 25 = .ok (.iconst 0, 1) := by decide +kernel
theorem d3_26 : decode method_2_code 26 = .ok (.iaload, 1) := by decide +kernel
theorem d3_27 : decode method_2_code 27 = .ok (.iastore, 1) := by decide +kernel
theorem d3_28 : decode method_2_code 28 = .ok (.iinc 6 1, 3) := by decide +kernel
theorem d3_31 : decode method_2_code 31 = .ok (.iload_n 2, 1) := by decide +kernel
theorem d3_32 : decode method_2_code 32 = .ok (.iconst 1, 1) := by decide +kernel
theorem d3_33 : decode method_2_code 33 = .ok (.if_icmp .le 22, 3) := by decide +kernel
theorem d3_36 : decode method_2_code 36 = .ok (.aload_n 3, 1) := by decide +kernel
theorem d3_37 : decode method_2_code 37 = .ok (.iconst 1, 1) := by decide +kernel
theorem d3_38 : decode method_2_code 38 = .ok (.iaload, 1) := by decide +kernel
theorem d3_39 : decode method_2_code 39 = .ok (.iload_n 1, 1) := by decide +kernel
theorem d3_40 : decode method_2_code 40 = .ok (.if_icmp .ne 15, 3) := by decide +kernel
theorem d3_43 : decode method_2_code 43 = .ok (.aload 5, 2) := by decide +kernel
theorem d3_45 : decode method_2_code 45 = .ok (.iload 6, 2) := by decide +kernel
theorem d3_47 : decode method_2_code 47 = .ok (.aload 4, 2) := by decide +kernel
theorem d3_49 : decode method_2_code 49 = .ok (.iconst 1, 1) := by decide +kernel
theorem d3_50 : decode method_2_code 50 = .ok (.iaload, 1) := by decide +kernel
theorem d3_51 : decode method_2_code 51 = .ok (.iastore, 1) := by decide +kernel
theorem d3_52 : decode method_2_code 52 = .ok (.iinc 6 1, 3) := by decide +kernel
theorem d3_55 : decode method_2_code 55 = .ok (.iload_n 2, 1) := by decide +kernel
theorem d3_56 : decode method_2_code 56 = .ok (.iconst 2, 1) := by decide +kernel
theorem d3_57 : decode method_2_code 57 = .ok (.if_icmp .le 22, 3) := by decide +kernel
theorem d3_60 : decode method_2_code 60 = .ok (.aload_n 3, 1) := by decide +kernel
theorem d3_61 : decode method_2_code 61 = .ok (.iconst 2, 1) := by decide +kernel
theorem d3_62 : decode method_2_code 62 = .ok (.iaload, 1) := by decide +kernel
theorem d3_63 : decode method_2_code 63 = .ok (.iload_n 1, 1) := by decide +kernel
theorem d3_64 : decode method_2_code 64 = .ok (.if_icmp .ne 15, 3) := by decide +kernel
theorem d3_67 : decode method_2_code 67 = .ok (.aload 5, 2) := by decide +kernel
theorem d3_69 : decode method_2_code 69 = .ok (.iload 6, 2) := by decide +kernel
theorem d3_71 : decode method_2_code 71 = .ok (.aload 4, 2) := by decide +kernel
theorem d3_73 : decode method_2_code 73 = .ok (.iconst 2, 1) := by decide +kernel
theorem d3_74 : decode method_2_code 74 = .ok (.iaload, 1) := by decide +kernel
theorem d3_75 : decode method_2_code 75 = .ok (.iastore, 1) := by decide +kernel
theorem d3_76 : decode method_2_code 76 = .ok (.iinc 6 1, 3) := by decide +kernel
theorem d3_79 : decode method_2_code 79 = .ok (.iload_n 2, 1) := by decide +kernel
theorem d3_80 : decode method_2_code 80 = .ok (.iconst 3, 1) := by decide +kernel
theorem d3_81 : decode method_2_code 81 = .ok (.if_icmp .le 22, 3) := by decide +kernel
theorem d3_84 : decode method_2_code 84 = .ok (.aload_n 3, 1) := by decide +kernel
theorem d3_85 : decode method_2_code 85 = .ok (.iconst 3, 1) := by decide +kernel
theorem d3_86 : decode method_2_code 86 = .ok (.iaload, 1) := by decide +kernel
theorem d3_87 : decode method_2_code 87 = .ok (.iload_n 1, 1) := by decide +kernel
theorem d3_88 : decode method_2_code 88 = .ok (.if_icmp .ne 15, 3) := by decide +kernel
theorem d3_91 : decode method_2_code 91 = .ok (.aload 5, 2) := by decide +kernel
theorem d3_93 : decode method_2_code 93 = .ok (.iload 6, 2) := by decide +kernel
theorem d3_95 : decode method_2_code 95 = .ok (.aload 4, 2) := by decide +kernel
theorem d3_97 : decode method_2_code 97 = .ok (.iconst 3, 1) := by decide +kernel
theorem d3_98 : decode method_2_code 98 = .ok (.iaload, 1) := by decide +kernel
theorem d3_99 : decode method_2_code 99 = .ok (.iastore, 1) := by decide +kernel
theorem d3_100 : decode method_2_code 100 = .ok (.iinc 6 1, 3) := by decide +kernel
theorem d3_103 : decode method_2_code 103 = .ok (.aload_n 0, 1) := by decide +kernel
theorem d3_104 : decode method_2_code 104 = .ok (.iload_n 1, 1) := by decide +kernel
theorem d3_105 : decode method_2_code 105 = .ok (.aaload, 1) := by decide +kernel
theorem d3_106 : decode method_2_code 106 = .ok (.astore 7, 2) := by decide +kernel
theorem d3_108 : decode method_2_code 108 = .ok (.aload 7, 2) := by decide +kernel
theorem d3_110 : decode method_2_code 110 = .ok (.ifnull 11, 3) := by decide +kernel
theorem d3_113 : decode method_2_code 113 = .ok (.aload 7, 2) := by decide +kernel
theorem d3_115 : decode method_2_code 115 = .ok (.arraylength, 1) := by decide +kernel
theorem d3_116 : decode method_2_code 116 = .ok (.iload 6, 2) := by decide +kernel
theorem d3_118 : decode method_2_code 118 = .ok (.if_icmp .eq 5, 3) := by decide +kernel
theorem d3_121 : decode method_2_code 121 = .ok (.iconst 0, 1) := by decide +kernel
theorem d3_122 : decode method_2_code 122 = .ok (.ireturn, 1) := by decide +kernel
theorem d3_123 : decode method_2_code 123 = .ok (.iload 6, 2) := by decide +kernel
theorem d3_125 : decode method_2_code 125 = .ok (.iconst 1, 1) := by decide +kernel
theorem d3_126 : decode method_2_code 126 = .ok (.if_icmp .lt 14, 3) := by decide +kernel
theorem d3_129 : decode method_2_code 129 = .ok (.aload 7, 2) := by decide +kernel
theorem d3_131 : decode method_2_code 131 = .ok (.iconst 0, 1) := by decide +kernel
theorem d3_132 : decode method_2_code 132 = .ok (.iaload, 1) := by decide +kernel
theorem d3_133 : decode method_2_code 133 = .ok (.aload 5, 2) := by decide +kernel
theorem d3_135 : decode method_2_code 135 = .ok (.iconst 0, 1) := by decide +kernel
theorem d3_136 : decode method_2_code 136 = .ok (.iaload, 1) := by decide +kernel
theorem d3_137 : decode method_2_code 137 = .ok (.if_icmp .ne 58, 3) := by decide +kernel
theorem d3_140 : decode method_2_code 140 = .ok (.iload 6, 2) := by decide +kernel
theorem d3_142 : decode method_2_code 142 = .ok (.iconst 2, 1) := by decide +kernel
theorem d3_143 : decode method_2_code 143 = .ok (.if_icmp .lt 14, 3) := by decide +kernel
theorem d3_146 : decode method_2_code 146 = .ok (.aload 7, 2) := by decide +kernel
theorem d3_148 : decode method_2_code 148 = .ok (.iconst 1, 1) := by decide +kernel
theorem d3_149 : decode method_2_code 149 = .ok (.iaload, 1) := by decide +kernel
theorem d3_150 : decode method_2_code 150 = .ok (.aload 5, 2) := by decide +kernel
theorem d3_152 : decode method_2_code 152 = .ok (.iconst 1, 1) := by decide +kernel
theorem d3_153 : decode method_2_code 153 = .ok (.iaload, 1) := by decide +kernel
theorem d3_154 : decode method_2_code 154 = .ok (.if_icmp .ne 41, 3) := by decide +kernel
theorem d3_157 : decode method_2_code 157 = .ok (.iload 6, 2) := by decide +kernel
theorem d3_159 : decode method_2_code 159 = .ok (.iconst 3, 1) := by decide +kernel
theorem d3_160 : decode method_2_code 160 = .ok (.if_icmp .lt 14, 3) := by decide +kernel
theorem d3_163 : decode method_2_code 163 = .ok (.aload 7, 2) := by decide +kernel
theorem d3_165 : decode method_2_code 165 = .ok (.iconst 2, 1) := by decide +kernel
theorem d3_166 : decode method_2_code 166 = .ok (.iaload, 1) := by decide +kernel
theorem d3_167 : decode method_2_code 167 = .ok (.aload 5, 2) := by decide +kernel
theorem d3_169 : decode method_2_code 169 = .ok (.iconst 2, 1) := by decide +kernel
theorem d3_170 : decode method_2_code 170 = .ok (.iaload, 1) := by decide +kernel
theorem d3_171 : decode method_2_code 171 = .ok (.if_icmp .ne 24, 3) := by decide +kernel
theorem d3_174 : decode method_2_code 174 = .ok (.iload 6, 2) := by decide +kernel
theorem d3_176 : decode method_2_code 176 = .ok (.iconst 4, 1) := by decide +kernel
theorem d3_177 : decode method_2_code 177 = .ok (.if_icmp .lt 14, 3) := by decide +kernel
theorem d3_180 : decode method_2_code 180 = .ok (.aload 7, 2) := by decide +kernel
theorem d3_182 : decode method_2_code 182 = .ok (.iconst 3, 1) := by decide +kernel
theorem d3_183 : decode method_2_code 183 = .ok (.iaload, 1) := by decide +kernel
theorem d3_184 : decode method_2_code 184 = .ok (.aload 5, 2) := by decide +kernel
theorem d3_186 : decode method_2_code 186 = .ok (.iconst 3, 1) := by decide +kernel
theorem d3_187 : decode method_2_code 187 = .ok (.iaload, 1) := by decide +kernel
theorem d3_188 : decode method_2_code 188 = .ok (.if_icmp .ne 7, 3) := by decide +kernel
theorem d3_191 : decode method_2_code 191 = .ok (.iconst 1, 1) := by decide +kernel
theorem d3_192 : decode method_2_code 192 = .ok (.goto 4, 3) := by decide +kernel
theorem d3_195 : decode method_2_code 195 = .ok (.iconst 0, 1) := by decide +kernel
theorem d3_196 : decode method_2_code 196 = .ok (.ireturn, 1) := by decide +kernel
theorem pf_3 : plainFor (⟨"com/example/lattis/lattis/WalkAdjacencyPinLaw", "row", "([[III[I[I)Z"⟩ : MethodName) = true := plainFor_of_name (by first | (simp [plainName, overriddenIn]; done) | decide +kernel)
theorem pd_3 : parseMethodDescriptor "([[III[I[I)Z" = some ⟨[(.array (.array .int)), .int, .int, (.array .int), (.array .int)], some .boolean⟩ := by decide +kernel
set_option maxRecDepth 65536 in
set_option maxHeartbeats 40000000 in
theorem con_row (l : Launch) (Z : State) (a0 : Array Value) (hw : ∀ d ∈ tables_1, d.before a0 Z = true) (n0 : Nat) (h0 : Heap) (Z0 : n0 ≤ h0.size) (ad fr tv : Addr) (xz nz : Int32) (cc n xk g0 g1 g2 g3 : Nat) (t0 t1 t2 t3 : Int32) (rs : Nat → Addr) (hc : cc ≤ 4) (hn : n ≤ 4) (hx : xk < cc) (g04 : g0 < 4) (g14 : g1 < 4) (g24 : g2 < 4) (g34 : g3 < 4) (hnz : nz = n.toInt32) (hxz : xz = xk.toInt32) (O : AO Z h0 ad (ouV cc cc rs)) (RF : ∀ x, x < cc → AR Z h0 (rs x) .int ((rowP (fsF g0 g1 g2 g3) (tsF t0 t1 t2 t3) n n x).map Value.int)) (AF_ : AR Z h0 fr .int [(.int g0.toInt32), (.int g1.toInt32), (.int g2.toInt32), (.int g3.toInt32)]) (AT_ : AR Z h0 tv .int [(.int t0), (.int t1), (.int t2), (.int t3)]) :
    Con l Z (⟨"com/example/lattis/lattis/WalkAdjacencyPinLaw", "row", "([[III[I[I)Z"⟩ : MethodName) method_2_code 8 (some .boolean) [] ({ frames := 0, cells := 1, slots := 4, locals := 0 } : Room) n0 #[(.ref ad), (.int xz), (.int nz), (.ref fr), (.ref tv)] h0 (fun v h => v = some (.int 1) ∧ Keep h0 h []) := by
  refine Con.mk pf_3 hw Z0 ?_
  intro p e s m below meth c T0 C X0
  have ef : entryFrame m #[(.ref ad), (.int xz), (.int nz), (.ref fr), (.ref tv)] 8 = mkF m 0 #[rv ad, iv xz, iv nz, rv fr, rv tv, .unset, .unset, .unset] [] := by first | (simp [entryFrame, mkF, argsToLocals, Value.category]; done) | rfl
  rw [ef]
  subst hxz
  have hn5 : n = 0 ∨ n = 1 ∨ n = 2 ∨ n = 3 ∨ n = 4 := by omega
  have AX := RF xk hx
  rcases hn5 with rfl | rfl | rfl | rfl | rfl
  · subst hnz
    show Go p e below s n0 _ _ _ (T0.setTop (mkF m 0 #[rv ad, iv xk.toInt32, iv 0, rv fr, rv tv, .unset, .unset, .unset] []))
    refine Go.st (fun _ => XS.iconst X0.here C.hx rfl (hb C.hby d3_0)) ?_
    show Go p e below s n0 _ _ _ (T0.setTop (mkF m 1 #[rv ad, iv xk.toInt32, iv 0, rv fr, rv tv, .unset, .unset, .unset] [(.int 4)]))
    refine Go.newP C X0 (aty := .int) (cap := 4) (wd 4 rfl) d3_1 (by decide) (by decide) (by decide) (by decide) (by decide) (fun T127 h127 b127 g127 ge127 X127 E127 A127 => ?_)
    have ne_ad_b127 : ad ≠ b127 := Nat.ne_of_lt (Nat.lt_of_lt_of_le (O).lt (Nat.le_of_eq g127))
    have ne_fr_b127 : fr ≠ b127 := Nat.ne_of_lt (Nat.lt_of_lt_of_le (AF_).lt (Nat.le_of_eq g127))
    have ne_tv_b127 : tv ≠ b127 := Nat.ne_of_lt (Nat.lt_of_lt_of_le (AT_).lt (Nat.le_of_eq g127))
    have ne__rs_xk__b127 : (rs xk) ≠ b127 := Nat.ne_of_lt (Nat.lt_of_lt_of_le (AX).lt (Nat.le_of_eq g127))
    have K127 : Keep h0 h127 [] := (Keep.refl h0 []).ext E127
    have old_b127 : h0.size ≤ b127 := Nat.le_trans (Keep.refl h0 []).1 (Nat.le_of_eq g127)
    have A_b127 : AR Z h127 b127 .int [(.int 0), (.int 0), (.int 0), (.int 0)] := A127
    show Go p e below s n0 _ _ _ (T127.setTop (mkF m 3 #[rv ad, iv xk.toInt32, iv 0, rv fr, rv tv, .unset, .unset, .unset] [(.ref b127)]))
    refine Go.st (fun _ => XS.astore X127.here C.hx rfl (hb C.hby d3_3) rfl rfl (l' := #[rv ad, iv xk.toInt32, iv 0, rv fr, rv tv, rv b127, .unset, .unset]) rfl) ?_
    show Go p e below s n0 _ _ _ (T127.setTop (mkF m 5 #[rv ad, iv xk.toInt32, iv 0, rv fr, rv tv, rv b127, .unset, .unset] []))
    refine Go.st (fun _ => XS.iconst X127.here C.hx rfl (hb C.hby d3_5)) ?_
    show Go p e below s n0 _ _ _ (T127.setTop (mkF m 6 #[rv ad, iv xk.toInt32, iv 0, rv fr, rv tv, rv b127, .unset, .unset] [(.int 0)]))
    refine Go.st (fun _ => XS.istore X127.here C.hx rfl (hb C.hby d3_6) rfl (l' := #[rv ad, iv xk.toInt32, iv 0, rv fr, rv tv, rv b127, iv 0, .unset]) rfl) ?_
    show Go p e below s n0 _ _ _ (T127.setTop (mkF m 8 #[rv ad, iv xk.toInt32, iv 0, rv fr, rv tv, rv b127, iv 0, .unset] []))
    refine Go.st (fun _ => XS.iloadN X127.here C.hx rfl (hb C.hby d3_8) rfl) ?_
    show Go p e below s n0 _ _ _ (T127.setTop (mkF m 9 #[rv ad, iv xk.toInt32, iv 0, rv fr, rv tv, rv b127, iv 0, .unset] [(.int 0)]))
    refine Go.if_le C X127 (pc' := 31) d3_9 (by decide) (by decide) (fun _ => ?_) (fun hc => absurd hc (by decide))
    show Go p e below s n0 _ _ _ (T127.setTop (mkF m 31 #[rv ad, iv xk.toInt32, iv 0, rv fr, rv tv, rv b127, iv 0, .unset] []))
    refine Go.st (fun _ => XS.iloadN X127.here C.hx rfl (hb C.hby d3_31) rfl) ?_
    show Go p e below s n0 _ _ _ (T127.setTop (mkF m 32 #[rv ad, iv xk.toInt32, iv 0, rv fr, rv tv, rv b127, iv 0, .unset] [(.int 0)]))
    refine Go.st (fun _ => XS.iconst X127.here C.hx rfl (hb C.hby d3_32)) ?_
    show Go p e below s n0 _ _ _ (T127.setTop (mkF m 33 #[rv ad, iv xk.toInt32, iv 0, rv fr, rv tv, rv b127, iv 0, .unset] [(.int 1), (.int 0)]))
    refine Go.icmp_le C X127 (pc' := 55) d3_33 (by decide) (by decide) (fun _ => ?_) (fun hc => absurd hc (by decide))
    show Go p e below s n0 _ _ _ (T127.setTop (mkF m 55 #[rv ad, iv xk.toInt32, iv 0, rv fr, rv tv, rv b127, iv 0, .unset] []))
    refine Go.st (fun _ => XS.iloadN X127.here C.hx rfl (hb C.hby d3_55) rfl) ?_
    show Go p e below s n0 _ _ _ (T127.setTop (mkF m 56 #[rv ad, iv xk.toInt32, iv 0, rv fr, rv tv, rv b127, iv 0, .unset] [(.int 0)]))
    refine Go.st (fun _ => XS.iconst X127.here C.hx rfl (hb C.hby d3_56)) ?_
    show Go p e below s n0 _ _ _ (T127.setTop (mkF m 57 #[rv ad, iv xk.toInt32, iv 0, rv fr, rv tv, rv b127, iv 0, .unset] [(.int 2), (.int 0)]))
    refine Go.icmp_le C X127 (pc' := 79) d3_57 (by decide) (by decide) (fun _ => ?_) (fun hc => absurd hc (by decide))
    show Go p e below s n0 _ _ _ (T127.setTop (mkF m 79 #[rv ad, iv xk.toInt32, iv 0, rv fr, rv tv, rv b127, iv 0, .unset] []))
    refine Go.st (fun _ => XS.iloadN X127.here C.hx rfl (hb C.hby d3_79) rfl) ?_
    show Go p e below s n0 _ _ _ (T127.setTop (mkF m 80 #[rv ad, iv xk.toInt32, iv 0, rv fr, rv tv, rv b127, iv 0, .unset] [(.int 0)]))
    refine Go.st (fun _ => XS.iconst X127.here C.hx rfl (hb C.hby d3_80)) ?_
    show Go p e below s n0 _ _ _ (T127.setTop (mkF m 81 #[rv ad, iv xk.toInt32, iv 0, rv fr, rv tv, rv b127, iv 0, .unset] [(.int 3), (.int 0)]))
    refine Go.icmp_le C X127 (pc' := 103) d3_81 (by decide) (by decide) (fun _ => ?_) (fun hc => absurd hc (by decide))
    have RL : rowP (fsF g0 g1 g2 g3) (tsF t0 t1 t2 t3) 0 0 xk = [] := by
      simp only [rowP, cnt, if_true, if_false]
      try rfl
    have AXX : AR Z h127 (rs xk) .int [] := by have u := (AX.ext E127); rw [RL] at u; exact u
    show Go p e below s n0 _ _ _ (T127.setTop (mkF m 103 #[rv ad, iv xk.toInt32, iv 0, rv fr, rv tv, rv b127, iv 0, .unset] []))
    refine Go.st (fun _ => XS.aloadN X127.here C.hx rfl (hb C.hby d3_103) rfl rfl) ?_
    show Go p e below s n0 _ _ _ (T127.setTop (mkF m 104 #[rv ad, iv xk.toInt32, iv 0, rv fr, rv tv, rv b127, iv 0, .unset] [(.ref ad)]))
    refine Go.st (fun _ => XS.iloadN X127.here C.hx rfl (hb C.hby d3_104) rfl) ?_
    show Go p e below s n0 _ _ _ (T127.setTop (mkF m 105 #[rv ad, iv xk.toInt32, iv 0, rv fr, rv tv, rv b127, iv 0, .unset] [(.int xk.toInt32), (.ref ad)]))
    refine Go.aaload C X127 ((O.ext E127)).ar rfl (nn32 (by omega)) (ou_get hc hx) d3_105 ?_
    show Go p e below s n0 _ _ _ (T127.setTop (mkF m 106 #[rv ad, iv xk.toInt32, iv 0, rv fr, rv tv, rv b127, iv 0, .unset] [(.ref (rs xk))]))
    refine Go.st (fun _ => XS.astore X127.here C.hx rfl (hb C.hby d3_106) rfl rfl (l' := #[rv ad, iv xk.toInt32, iv 0, rv fr, rv tv, rv b127, iv 0, rv (rs xk)]) rfl) ?_
    show Go p e below s n0 _ _ _ (T127.setTop (mkF m 108 #[rv ad, iv xk.toInt32, iv 0, rv fr, rv tv, rv b127, iv 0, rv (rs xk)] []))
    refine Go.st (fun _ => XS.aload X127.here C.hx rfl (hb C.hby d3_108) rfl rfl) ?_
    show Go p e below s n0 _ _ _ (T127.setTop (mkF m 110 #[rv ad, iv xk.toInt32, iv 0, rv fr, rv tv, rv b127, iv 0, rv (rs xk)] [(.ref (rs xk))]))
    refine Go.st (fun _ => XS.ifnullNo X127.here C.hx rfl (hb C.hby d3_110) rfl) ?_
    show Go p e below s n0 _ _ _ (T127.setTop (mkF m 113 #[rv ad, iv xk.toInt32, iv 0, rv fr, rv tv, rv b127, iv 0, rv (rs xk)] []))
    refine Go.st (fun _ => XS.aload X127.here C.hx rfl (hb C.hby d3_113) rfl rfl) ?_
    show Go p e below s n0 _ _ _ (T127.setTop (mkF m 115 #[rv ad, iv xk.toInt32, iv 0, rv fr, rv tv, rv b127, iv 0, rv (rs xk)] [(.ref (rs xk))]))
    refine Go.alen C X127 AXX (z := (0 : Int32)) rfl d3_115 ?_
    show Go p e below s n0 _ _ _ (T127.setTop (mkF m 116 #[rv ad, iv xk.toInt32, iv 0, rv fr, rv tv, rv b127, iv 0, rv (rs xk)] [(.int 0)]))
    refine Go.st (fun _ => XS.iload X127.here C.hx rfl (hb C.hby d3_116) rfl) ?_
    show Go p e below s n0 _ _ _ (T127.setTop (mkF m 118 #[rv ad, iv xk.toInt32, iv 0, rv fr, rv tv, rv b127, iv 0, rv (rs xk)] [(.int 0), (.int 0)]))
    refine Go.icmp_eq C X127 (pc' := 123) d3_118 (by decide) (by decide) (fun _ => ?_) (fun hc => absurd hc (by decide))
    show Go p e below s n0 _ _ _ (T127.setTop (mkF m 123 #[rv ad, iv xk.toInt32, iv 0, rv fr, rv tv, rv b127, iv 0, rv (rs xk)] []))
    refine Go.st (fun _ => XS.iload X127.here C.hx rfl (hb C.hby d3_123) rfl) ?_
    show Go p e below s n0 _ _ _ (T127.setTop (mkF m 125 #[rv ad, iv xk.toInt32, iv 0, rv fr, rv tv, rv b127, iv 0, rv (rs xk)] [(.int 0)]))
    refine Go.st (fun _ => XS.iconst X127.here C.hx rfl (hb C.hby d3_125)) ?_
    show Go p e below s n0 _ _ _ (T127.setTop (mkF m 126 #[rv ad, iv xk.toInt32, iv 0, rv fr, rv tv, rv b127, iv 0, rv (rs xk)] [(.int 1), (.int 0)]))
    refine Go.icmp_lt C X127 (pc' := 140) d3_126 (by decide) (by decide) (fun _ => ?_) (fun hc => absurd hc (by decide))
    show Go p e below s n0 _ _ _ (T127.setTop (mkF m 140 #[rv ad, iv xk.toInt32, iv 0, rv fr, rv tv, rv b127, iv 0, rv (rs xk)] []))
    refine Go.st (fun _ => XS.iload X127.here C.hx rfl (hb C.hby d3_140) rfl) ?_
    show Go p e below s n0 _ _ _ (T127.setTop (mkF m 142 #[rv ad, iv xk.toInt32, iv 0, rv fr, rv tv, rv b127, iv 0, rv (rs xk)] [(.int 0)]))
    refine Go.st (fun _ => XS.iconst X127.here C.hx rfl (hb C.hby d3_142)) ?_
    show Go p e below s n0 _ _ _ (T127.setTop (mkF m 143 #[rv ad, iv xk.toInt32, iv 0, rv fr, rv tv, rv b127, iv 0, rv (rs xk)] [(.int 2), (.int 0)]))
    refine Go.icmp_lt C X127 (pc' := 157) d3_143 (by decide) (by decide) (fun _ => ?_) (fun hc => absurd hc (by decide))
    show Go p e below s n0 _ _ _ (T127.setTop (mkF m 157 #[rv ad, iv xk.toInt32, iv 0, rv fr, rv tv, rv b127, iv 0, rv (rs xk)] []))
    refine Go.st (fun _ => XS.iload X127.here C.hx rfl (hb C.hby d3_157) rfl) ?_
    show Go p e below s n0 _ _ _ (T127.setTop (mkF m 159 #[rv ad, iv xk.toInt32, iv 0, rv fr, rv tv, rv b127, iv 0, rv (rs xk)] [(.int 0)]))
    refine Go.st (fun _ => XS.iconst X127.here C.hx rfl (hb C.hby d3_159)) ?_
    show Go p e below s n0 _ _ _ (T127.setTop (mkF m 160 #[rv ad, iv xk.toInt32, iv 0, rv fr, rv tv, rv b127, iv 0, rv (rs xk)] [(.int 3), (.int 0)]))
    refine Go.icmp_lt C X127 (pc' := 174) d3_160 (by decide) (by decide) (fun _ => ?_) (fun hc => absurd hc (by decide))
    show Go p e below s n0 _ _ _ (T127.setTop (mkF m 174 #[rv ad, iv xk.toInt32, iv 0, rv fr, rv tv, rv b127, iv 0, rv (rs xk)] []))
    refine Go.st (fun _ => XS.iload X127.here C.hx rfl (hb C.hby d3_174) rfl) ?_
    show Go p e below s n0 _ _ _ (T127.setTop (mkF m 176 #[rv ad, iv xk.toInt32, iv 0, rv fr, rv tv, rv b127, iv 0, rv (rs xk)] [(.int 0)]))
    refine Go.st (fun _ => XS.iconst X127.here C.hx rfl (hb C.hby d3_176)) ?_
    show Go p e below s n0 _ _ _ (T127.setTop (mkF m 177 #[rv ad, iv xk.toInt32, iv 0, rv fr, rv tv, rv b127, iv 0, rv (rs xk)] [(.int 4), (.int 0)]))
    refine Go.icmp_lt C X127 (pc' := 191) d3_177 (by decide) (by decide) (fun _ => ?_) (fun hc => absurd hc (by decide))
    show Go p e below s n0 _ _ _ (T127.setTop (mkF m 191 #[rv ad, iv xk.toInt32, iv 0, rv fr, rv tv, rv b127, iv 0, rv (rs xk)] []))
    refine Go.st (fun _ => XS.iconst X127.here C.hx rfl (hb C.hby d3_191)) ?_
    show Go p e below s n0 _ _ _ (T127.setTop (mkF m 192 #[rv ad, iv xk.toInt32, iv 0, rv fr, rv tv, rv b127, iv 0, rv (rs xk)] [(.int 1)]))
    refine Go.st (fun _ => XS.goto X127.here C.hx rfl (pc0 := 192) (pc' := 196) rfl (hb C.hby d3_192) (by decide) (by decide)) ?_
    show Go p e below s n0 _ _ _ (T127.setTop (mkF m 196 #[rv ad, iv xk.toInt32, iv 0, rv fr, rv tv, rv b127, iv 0, rv (rs xk)] [(.int 1)]))
    exact Go.retZ C X127 (by decide) d3_196 ⟨rfl, K127⟩ (by decide) (by decide)
  · subst hnz
    show Go p e below s n0 _ _ _ (T0.setTop (mkF m 0 #[rv ad, iv xk.toInt32, iv 1, rv fr, rv tv, .unset, .unset, .unset] []))
    refine Go.st (fun _ => XS.iconst X0.here C.hx rfl (hb C.hby d3_0)) ?_
    show Go p e below s n0 _ _ _ (T0.setTop (mkF m 1 #[rv ad, iv xk.toInt32, iv 1, rv fr, rv tv, .unset, .unset, .unset] [(.int 4)]))
    refine Go.newP C X0 (aty := .int) (cap := 4) (wd 4 rfl) d3_1 (by decide) (by decide) (by decide) (by decide) (by decide) (fun T137 h137 b137 g137 ge137 X137 E137 A137 => ?_)
    have ne_ad_b137 : ad ≠ b137 := Nat.ne_of_lt (Nat.lt_of_lt_of_le (O).lt (Nat.le_of_eq g137))
    have ne_fr_b137 : fr ≠ b137 := Nat.ne_of_lt (Nat.lt_of_lt_of_le (AF_).lt (Nat.le_of_eq g137))
    have ne_tv_b137 : tv ≠ b137 := Nat.ne_of_lt (Nat.lt_of_lt_of_le (AT_).lt (Nat.le_of_eq g137))
    have ne__rs_xk__b137 : (rs xk) ≠ b137 := Nat.ne_of_lt (Nat.lt_of_lt_of_le (AX).lt (Nat.le_of_eq g137))
    have K137 : Keep h0 h137 [] := (Keep.refl h0 []).ext E137
    have old_b137 : h0.size ≤ b137 := Nat.le_trans (Keep.refl h0 []).1 (Nat.le_of_eq g137)
    have A_b137 : AR Z h137 b137 .int [(.int 0), (.int 0), (.int 0), (.int 0)] := A137
    show Go p e below s n0 _ _ _ (T137.setTop (mkF m 3 #[rv ad, iv xk.toInt32, iv 1, rv fr, rv tv, .unset, .unset, .unset] [(.ref b137)]))
    refine Go.st (fun _ => XS.astore X137.here C.hx rfl (hb C.hby d3_3) rfl rfl (l' := #[rv ad, iv xk.toInt32, iv 1, rv fr, rv tv, rv b137, .unset, .unset]) rfl) ?_
    show Go p e below s n0 _ _ _ (T137.setTop (mkF m 5 #[rv ad, iv xk.toInt32, iv 1, rv fr, rv tv, rv b137, .unset, .unset] []))
    refine Go.st (fun _ => XS.iconst X137.here C.hx rfl (hb C.hby d3_5)) ?_
    show Go p e below s n0 _ _ _ (T137.setTop (mkF m 6 #[rv ad, iv xk.toInt32, iv 1, rv fr, rv tv, rv b137, .unset, .unset] [(.int 0)]))
    refine Go.st (fun _ => XS.istore X137.here C.hx rfl (hb C.hby d3_6) rfl (l' := #[rv ad, iv xk.toInt32, iv 1, rv fr, rv tv, rv b137, iv 0, .unset]) rfl) ?_
    show Go p e below s n0 _ _ _ (T137.setTop (mkF m 8 #[rv ad, iv xk.toInt32, iv 1, rv fr, rv tv, rv b137, iv 0, .unset] []))
    refine Go.st (fun _ => XS.iloadN X137.here C.hx rfl (hb C.hby d3_8) rfl) ?_
    show Go p e below s n0 _ _ _ (T137.setTop (mkF m 9 #[rv ad, iv xk.toInt32, iv 1, rv fr, rv tv, rv b137, iv 0, .unset] [(.int 1)]))
    refine Go.if_le C X137 (pc' := 31) d3_9 (by decide) (by decide) (fun hc => absurd hc (by decide)) (fun _ => ?_)
    show Go p e below s n0 _ _ _ (T137.setTop (mkF m 12 #[rv ad, iv xk.toInt32, iv 1, rv fr, rv tv, rv b137, iv 0, .unset] []))
    refine Go.st (fun _ => XS.aloadN X137.here C.hx rfl (hb C.hby d3_12) rfl rfl) ?_
    show Go p e below s n0 _ _ _ (T137.setTop (mkF m 13 #[rv ad, iv xk.toInt32, iv 1, rv fr, rv tv, rv b137, iv 0, .unset] [(.ref fr)]))
    refine Go.st (fun _ => XS.iconst X137.here C.hx rfl (hb C.hby d3_13)) ?_
    show Go p e below s n0 _ _ _ (T137.setTop (mkF m 14 #[rv ad, iv xk.toInt32, iv 1, rv fr, rv tv, rv b137, iv 0, .unset] [(.int 0), (.ref fr)]))
    refine Go.iaload C X137 (AF_.ext E137) (by decide) rfl d3_14 ?_
    show Go p e below s n0 _ _ _ (T137.setTop (mkF m 15 #[rv ad, iv xk.toInt32, iv 1, rv fr, rv tv, rv b137, iv 0, .unset] [(.int g0.toInt32)]))
    refine Go.st (fun _ => XS.iloadN X137.here C.hx rfl (hb C.hby d3_15) rfl) ?_
    show Go p e below s n0 _ _ _ (T137.setTop (mkF m 16 #[rv ad, iv xk.toInt32, iv 1, rv fr, rv tv, rv b137, iv 0, .unset] [(.int xk.toInt32), (.int g0.toInt32)]))
    refine Go.icmp_ne C X137 (pc' := 31) d3_16 (by decide) (by decide) (fun hc16_139 => ?_) (fun hc16_139 => ?_)
    · show Go p e below s n0 _ _ _ (T137.setTop (mkF m 31 #[rv ad, iv xk.toInt32, iv 1, rv fr, rv tv, rv b137, iv 0, .unset] []))
      refine Go.st (fun _ => XS.iloadN X137.here C.hx rfl (hb C.hby d3_31) rfl) ?_
      show Go p e below s n0 _ _ _ (T137.setTop (mkF m 32 #[rv ad, iv xk.toInt32, iv 1, rv fr, rv tv, rv b137, iv 0, .unset] [(.int 1)]))
      refine Go.st (fun _ => XS.iconst X137.here C.hx rfl (hb C.hby d3_32)) ?_
      show Go p e below s n0 _ _ _ (T137.setTop (mkF m 33 #[rv ad, iv xk.toInt32, iv 1, rv fr, rv tv, rv b137, iv 0, .unset] [(.int 1), (.int 1)]))
      refine Go.icmp_le C X137 (pc' := 55) d3_33 (by decide) (by decide) (fun _ => ?_) (fun hc => absurd hc (by decide))
      show Go p e below s n0 _ _ _ (T137.setTop (mkF m 55 #[rv ad, iv xk.toInt32, iv 1, rv fr, rv tv, rv b137, iv 0, .unset] []))
      refine Go.st (fun _ => XS.iloadN X137.here C.hx rfl (hb C.hby d3_55) rfl) ?_
      show Go p e below s n0 _ _ _ (T137.setTop (mkF m 56 #[rv ad, iv xk.toInt32, iv 1, rv fr, rv tv, rv b137, iv 0, .unset] [(.int 1)]))
      refine Go.st (fun _ => XS.iconst X137.here C.hx rfl (hb C.hby d3_56)) ?_
      show Go p e below s n0 _ _ _ (T137.setTop (mkF m 57 #[rv ad, iv xk.toInt32, iv 1, rv fr, rv tv, rv b137, iv 0, .unset] [(.int 2), (.int 1)]))
      refine Go.icmp_le C X137 (pc' := 79) d3_57 (by decide) (by decide) (fun _ => ?_) (fun hc => absurd hc (by decide))
      show Go p e below s n0 _ _ _ (T137.setTop (mkF m 79 #[rv ad, iv xk.toInt32, iv 1, rv fr, rv tv, rv b137, iv 0, .unset] []))
      refine Go.st (fun _ => XS.iloadN X137.here C.hx rfl (hb C.hby d3_79) rfl) ?_
      show Go p e below s n0 _ _ _ (T137.setTop (mkF m 80 #[rv ad, iv xk.toInt32, iv 1, rv fr, rv tv, rv b137, iv 0, .unset] [(.int 1)]))
      refine Go.st (fun _ => XS.iconst X137.here C.hx rfl (hb C.hby d3_80)) ?_
      show Go p e below s n0 _ _ _ (T137.setTop (mkF m 81 #[rv ad, iv xk.toInt32, iv 1, rv fr, rv tv, rv b137, iv 0, .unset] [(.int 3), (.int 1)]))
      refine Go.icmp_le C X137 (pc' := 103) d3_81 (by decide) (by decide) (fun _ => ?_) (fun hc => absurd hc (by decide))
      have p0 := eq_false (fun u : xk = g0 => hc16_139 ((eqI (by omega) (by omega)).mpr u.symm))
      have RL : rowP (fsF g0 g1 g2 g3) (tsF t0 t1 t2 t3) 1 1 xk = [] := by
        simp only [rowP, cnt, fsF0, tsF0, p0, if_true, if_false]
        try rfl
      have AXX : AR Z h137 (rs xk) .int [] := by have u := (AX.ext E137); rw [RL] at u; exact u
      show Go p e below s n0 _ _ _ (T137.setTop (mkF m 103 #[rv ad, iv xk.toInt32, iv 1, rv fr, rv tv, rv b137, iv 0, .unset] []))
      refine Go.st (fun _ => XS.aloadN X137.here C.hx rfl (hb C.hby d3_103) rfl rfl) ?_
      show Go p e below s n0 _ _ _ (T137.setTop (mkF m 104 #[rv ad, iv xk.toInt32, iv 1, rv fr, rv tv, rv b137, iv 0, .unset] [(.ref ad)]))
      refine Go.st (fun _ => XS.iloadN X137.here C.hx rfl (hb C.hby d3_104) rfl) ?_
      show Go p e below s n0 _ _ _ (T137.setTop (mkF m 105 #[rv ad, iv xk.toInt32, iv 1, rv fr, rv tv, rv b137, iv 0, .unset] [(.int xk.toInt32), (.ref ad)]))
      refine Go.aaload C X137 ((O.ext E137)).ar rfl (nn32 (by omega)) (ou_get hc hx) d3_105 ?_
      show Go p e below s n0 _ _ _ (T137.setTop (mkF m 106 #[rv ad, iv xk.toInt32, iv 1, rv fr, rv tv, rv b137, iv 0, .unset] [(.ref (rs xk))]))
      refine Go.st (fun _ => XS.astore X137.here C.hx rfl (hb C.hby d3_106) rfl rfl (l' := #[rv ad, iv xk.toInt32, iv 1, rv fr, rv tv, rv b137, iv 0, rv (rs xk)]) rfl) ?_
      show Go p e below s n0 _ _ _ (T137.setTop (mkF m 108 #[rv ad, iv xk.toInt32, iv 1, rv fr, rv tv, rv b137, iv 0, rv (rs xk)] []))
      refine Go.st (fun _ => XS.aload X137.here C.hx rfl (hb C.hby d3_108) rfl rfl) ?_
      show Go p e below s n0 _ _ _ (T137.setTop (mkF m 110 #[rv ad, iv xk.toInt32, iv 1, rv fr, rv tv, rv b137, iv 0, rv (rs xk)] [(.ref (rs xk))]))
      refine Go.st (fun _ => XS.ifnullNo X137.here C.hx rfl (hb C.hby d3_110) rfl) ?_
      show Go p e below s n0 _ _ _ (T137.setTop (mkF m 113 #[rv ad, iv xk.toInt32, iv 1, rv fr, rv tv, rv b137, iv 0, rv (rs xk)] []))
      refine Go.st (fun _ => XS.aload X137.here C.hx rfl (hb C.hby d3_113) rfl rfl) ?_
      show Go p e below s n0 _ _ _ (T137.setTop (mkF m 115 #[rv ad, iv xk.toInt32, iv 1, rv fr, rv tv, rv b137, iv 0, rv (rs xk)] [(.ref (rs xk))]))
      refine Go.alen C X137 AXX (z := (0 : Int32)) rfl d3_115 ?_
      show Go p e below s n0 _ _ _ (T137.setTop (mkF m 116 #[rv ad, iv xk.toInt32, iv 1, rv fr, rv tv, rv b137, iv 0, rv (rs xk)] [(.int 0)]))
      refine Go.st (fun _ => XS.iload X137.here C.hx rfl (hb C.hby d3_116) rfl) ?_
      show Go p e below s n0 _ _ _ (T137.setTop (mkF m 118 #[rv ad, iv xk.toInt32, iv 1, rv fr, rv tv, rv b137, iv 0, rv (rs xk)] [(.int 0), (.int 0)]))
      refine Go.icmp_eq C X137 (pc' := 123) d3_118 (by decide) (by decide) (fun _ => ?_) (fun hc => absurd hc (by decide))
      show Go p e below s n0 _ _ _ (T137.setTop (mkF m 123 #[rv ad, iv xk.toInt32, iv 1, rv fr, rv tv, rv b137, iv 0, rv (rs xk)] []))
      refine Go.st (fun _ => XS.iload X137.here C.hx rfl (hb C.hby d3_123) rfl) ?_
      show Go p e below s n0 _ _ _ (T137.setTop (mkF m 125 #[rv ad, iv xk.toInt32, iv 1, rv fr, rv tv, rv b137, iv 0, rv (rs xk)] [(.int 0)]))
      refine Go.st (fun _ => XS.iconst X137.here C.hx rfl (hb C.hby d3_125)) ?_
      show Go p e below s n0 _ _ _ (T137.setTop (mkF m 126 #[rv ad, iv xk.toInt32, iv 1, rv fr, rv tv, rv b137, iv 0, rv (rs xk)] [(.int 1), (.int 0)]))
      refine Go.icmp_lt C X137 (pc' := 140) d3_126 (by decide) (by decide) (fun _ => ?_) (fun hc => absurd hc (by decide))
      show Go p e below s n0 _ _ _ (T137.setTop (mkF m 140 #[rv ad, iv xk.toInt32, iv 1, rv fr, rv tv, rv b137, iv 0, rv (rs xk)] []))
      refine Go.st (fun _ => XS.iload X137.here C.hx rfl (hb C.hby d3_140) rfl) ?_
      show Go p e below s n0 _ _ _ (T137.setTop (mkF m 142 #[rv ad, iv xk.toInt32, iv 1, rv fr, rv tv, rv b137, iv 0, rv (rs xk)] [(.int 0)]))
      refine Go.st (fun _ => XS.iconst X137.here C.hx rfl (hb C.hby d3_142)) ?_
      show Go p e below s n0 _ _ _ (T137.setTop (mkF m 143 #[rv ad, iv xk.toInt32, iv 1, rv fr, rv tv, rv b137, iv 0, rv (rs xk)] [(.int 2), (.int 0)]))
      refine Go.icmp_lt C X137 (pc' := 157) d3_143 (by decide) (by decide) (fun _ => ?_) (fun hc => absurd hc (by decide))
      show Go p e below s n0 _ _ _ (T137.setTop (mkF m 157 #[rv ad, iv xk.toInt32, iv 1, rv fr, rv tv, rv b137, iv 0, rv (rs xk)] []))
      refine Go.st (fun _ => XS.iload X137.here C.hx rfl (hb C.hby d3_157) rfl) ?_
      show Go p e below s n0 _ _ _ (T137.setTop (mkF m 159 #[rv ad, iv xk.toInt32, iv 1, rv fr, rv tv, rv b137, iv 0, rv (rs xk)] [(.int 0)]))
      refine Go.st (fun _ => XS.iconst X137.here C.hx rfl (hb C.hby d3_159)) ?_
      show Go p e below s n0 _ _ _ (T137.setTop (mkF m 160 #[rv ad, iv xk.toInt32, iv 1, rv fr, rv tv, rv b137, iv 0, rv (rs xk)] [(.int 3), (.int 0)]))
      refine Go.icmp_lt C X137 (pc' := 174) d3_160 (by decide) (by decide) (fun _ => ?_) (fun hc => absurd hc (by decide))
      show Go p e below s n0 _ _ _ (T137.setTop (mkF m 174 #[rv ad, iv xk.toInt32, iv 1, rv fr, rv tv, rv b137, iv 0, rv (rs xk)] []))
      refine Go.st (fun _ => XS.iload X137.here C.hx rfl (hb C.hby d3_174) rfl) ?_
      show Go p e below s n0 _ _ _ (T137.setTop (mkF m 176 #[rv ad, iv xk.toInt32, iv 1, rv fr, rv tv, rv b137, iv 0, rv (rs xk)] [(.int 0)]))
      refine Go.st (fun _ => XS.iconst X137.here C.hx rfl (hb C.hby d3_176)) ?_
      show Go p e below s n0 _ _ _ (T137.setTop (mkF m 177 #[rv ad, iv xk.toInt32, iv 1, rv fr, rv tv, rv b137, iv 0, rv (rs xk)] [(.int 4), (.int 0)]))
      refine Go.icmp_lt C X137 (pc' := 191) d3_177 (by decide) (by decide) (fun _ => ?_) (fun hc => absurd hc (by decide))
      show Go p e below s n0 _ _ _ (T137.setTop (mkF m 191 #[rv ad, iv xk.toInt32, iv 1, rv fr, rv tv, rv b137, iv 0, rv (rs xk)] []))
      refine Go.st (fun _ => XS.iconst X137.here C.hx rfl (hb C.hby d3_191)) ?_
      show Go p e below s n0 _ _ _ (T137.setTop (mkF m 192 #[rv ad, iv xk.toInt32, iv 1, rv fr, rv tv, rv b137, iv 0, rv (rs xk)] [(.int 1)]))
      refine Go.st (fun _ => XS.goto X137.here C.hx rfl (pc0 := 192) (pc' := 196) rfl (hb C.hby d3_192) (by decide) (by decide)) ?_
      show Go p e below s n0 _ _ _ (T137.setTop (mkF m 196 #[rv ad, iv xk.toInt32, iv 1, rv fr, rv tv, rv b137, iv 0, rv (rs xk)] [(.int 1)]))
      exact Go.retZ C X137 (by decide) d3_196 ⟨rfl, K137⟩ (by decide) (by decide)
    · show Go p e below s n0 _ _ _ (T137.setTop (mkF m 19 #[rv ad, iv xk.toInt32, iv 1, rv fr, rv tv, rv b137, iv 0, .unset] []))
      refine Go.st (fun _ => XS.aload X137.here C.hx rfl (hb C.hby d3_19) rfl rfl) ?_
      show Go p e below s n0 _ _ _ (T137.setTop (mkF m 21 #[rv ad, iv xk.toInt32, iv 1, rv fr, rv tv, rv b137, iv 0, .unset] [(.ref b137)]))
      refine Go.st (fun _ => XS.iload X137.here C.hx rfl (hb C.hby d3_21) rfl) ?_
      show Go p e below s n0 _ _ _ (T137.setTop (mkF m 23 #[rv ad, iv xk.toInt32, iv 1, rv fr, rv tv, rv b137, iv 0, .unset] [(.int 0), (.ref b137)]))
      refine Go.st (fun _ => XS.aload X137.here C.hx rfl (hb C.hby d3_23) rfl rfl) ?_
      show Go p e below s n0 _ _ _ (T137.setTop (mkF m 25 #[rv ad, iv xk.toInt32, iv 1, rv fr, rv tv, rv b137, iv 0, .unset] [(.ref tv), (.int 0), (.ref b137)]))
      refine Go.st (fun _ => XS.iconst X137.here C.hx rfl (hb C.hby d3_25)) ?_
      show Go p e below s n0 _ _ _ (T137.setTop (mkF m 26 #[rv ad, iv xk.toInt32, iv 1, rv fr, rv tv, rv b137, iv 0, .unset] [(.int 0), (.ref tv), (.int 0), (.ref b137)]))
      refine Go.iaload C X137 (AT_.ext E137) (by decide) rfl d3_26 ?_
      show Go p e below s n0 _ _ _ (T137.setTop (mkF m 27 #[rv ad, iv xk.toInt32, iv 1, rv fr, rv tv, rv b137, iv 0, .unset] [(.int t0), (.int 0), (.ref b137)]))
      refine Go.iastore C X137 A_b137 (by decide) (Nat.le_of_ble_eq_true rfl) ge137 d3_27 (fun T148 h148 X148 W148 A148 => ?_)
      have A_148 : AR Z h148 b137 .int [(.int t0), (.int 0), (.int 0), (.int 0)] := A148
      have AX_149 : AR Z h148 (rs xk) .int ((rowP (fsF g0 g1 g2 g3) (tsF t0 t1 t2 t3) 1 1 xk).map Value.int) := ((AX.ext E137).other W148 ne__rs_xk__b137)
      have K148 : Keep h0 h148 [] := K137.wr W148 (Or.inr old_b137)
      show Go p e below s n0 _ _ _ (T148.setTop (mkF m 28 #[rv ad, iv xk.toInt32, iv 1, rv fr, rv tv, rv b137, iv 0, .unset] []))
      refine Go.st (fun _ => XS.iinc X148.here C.hx rfl (hb C.hby d3_28) rfl (l' := #[rv ad, iv xk.toInt32, iv 1, rv fr, rv tv, rv b137, iv 1, .unset]) rfl) ?_
      show Go p e below s n0 _ _ _ (T148.setTop (mkF m 31 #[rv ad, iv xk.toInt32, iv 1, rv fr, rv tv, rv b137, iv 1, .unset] []))
      refine Go.st (fun _ => XS.iloadN X148.here C.hx rfl (hb C.hby d3_31) rfl) ?_
      show Go p e below s n0 _ _ _ (T148.setTop (mkF m 32 #[rv ad, iv xk.toInt32, iv 1, rv fr, rv tv, rv b137, iv 1, .unset] [(.int 1)]))
      refine Go.st (fun _ => XS.iconst X148.here C.hx rfl (hb C.hby d3_32)) ?_
      show Go p e below s n0 _ _ _ (T148.setTop (mkF m 33 #[rv ad, iv xk.toInt32, iv 1, rv fr, rv tv, rv b137, iv 1, .unset] [(.int 1), (.int 1)]))
      refine Go.icmp_le C X148 (pc' := 55) d3_33 (by decide) (by decide) (fun _ => ?_) (fun hc => absurd hc (by decide))
      show Go p e below s n0 _ _ _ (T148.setTop (mkF m 55 #[rv ad, iv xk.toInt32, iv 1, rv fr, rv tv, rv b137, iv 1, .unset] []))
      refine Go.st (fun _ => XS.iloadN X148.here C.hx rfl (hb C.hby d3_55) rfl) ?_
      show Go p e below s n0 _ _ _ (T148.setTop (mkF m 56 #[rv ad, iv xk.toInt32, iv 1, rv fr, rv tv, rv b137, iv 1, .unset] [(.int 1)]))
      refine Go.st (fun _ => XS.iconst X148.here C.hx rfl (hb C.hby d3_56)) ?_
      show Go p e below s n0 _ _ _ (T148.setTop (mkF m 57 #[rv ad, iv xk.toInt32, iv 1, rv fr, rv tv, rv b137, iv 1, .unset] [(.int 2), (.int 1)]))
      refine Go.icmp_le C X148 (pc' := 79) d3_57 (by decide) (by decide) (fun _ => ?_) (fun hc => absurd hc (by decide))
      show Go p e below s n0 _ _ _ (T148.setTop (mkF m 79 #[rv ad, iv xk.toInt32, iv 1, rv fr, rv tv, rv b137, iv 1, .unset] []))
      refine Go.st (fun _ => XS.iloadN X148.here C.hx rfl (hb C.hby d3_79) rfl) ?_
      show Go p e below s n0 _ _ _ (T148.setTop (mkF m 80 #[rv ad, iv xk.toInt32, iv 1, rv fr, rv tv, rv b137, iv 1, .unset] [(.int 1)]))
      refine Go.st (fun _ => XS.iconst X148.here C.hx rfl (hb C.hby d3_80)) ?_
      show Go p e below s n0 _ _ _ (T148.setTop (mkF m 81 #[rv ad, iv xk.toInt32, iv 1, rv fr, rv tv, rv b137, iv 1, .unset] [(.int 3), (.int 1)]))
      refine Go.icmp_le C X148 (pc' := 103) d3_81 (by decide) (by decide) (fun _ => ?_) (fun hc => absurd hc (by decide))
      have p0 := eq_true ((eqI (by omega) (by omega)).mp hc16_139).symm
      have RL : rowP (fsF g0 g1 g2 g3) (tsF t0 t1 t2 t3) 1 1 xk = [t0] := by
        simp only [rowP, cnt, fsF0, tsF0, p0, if_true, if_false]
        try rfl
      have AXX : AR Z h148 (rs xk) .int [(.int t0)] := by have u := AX_149; rw [RL] at u; exact u
      show Go p e below s n0 _ _ _ (T148.setTop (mkF m 103 #[rv ad, iv xk.toInt32, iv 1, rv fr, rv tv, rv b137, iv 1, .unset] []))
      refine Go.st (fun _ => XS.aloadN X148.here C.hx rfl (hb C.hby d3_103) rfl rfl) ?_
      show Go p e below s n0 _ _ _ (T148.setTop (mkF m 104 #[rv ad, iv xk.toInt32, iv 1, rv fr, rv tv, rv b137, iv 1, .unset] [(.ref ad)]))
      refine Go.st (fun _ => XS.iloadN X148.here C.hx rfl (hb C.hby d3_104) rfl) ?_
      show Go p e below s n0 _ _ _ (T148.setTop (mkF m 105 #[rv ad, iv xk.toInt32, iv 1, rv fr, rv tv, rv b137, iv 1, .unset] [(.int xk.toInt32), (.ref ad)]))
      refine Go.aaload C X148 (((O.ext E137).other W148 ne_ad_b137)).ar rfl (nn32 (by omega)) (ou_get hc hx) d3_105 ?_
      show Go p e below s n0 _ _ _ (T148.setTop (mkF m 106 #[rv ad, iv xk.toInt32, iv 1, rv fr, rv tv, rv b137, iv 1, .unset] [(.ref (rs xk))]))
      refine Go.st (fun _ => XS.astore X148.here C.hx rfl (hb C.hby d3_106) rfl rfl (l' := #[rv ad, iv xk.toInt32, iv 1, rv fr, rv tv, rv b137, iv 1, rv (rs xk)]) rfl) ?_
      show Go p e below s n0 _ _ _ (T148.setTop (mkF m 108 #[rv ad, iv xk.toInt32, iv 1, rv fr, rv tv, rv b137, iv 1, rv (rs xk)] []))
      refine Go.st (fun _ => XS.aload X148.here C.hx rfl (hb C.hby d3_108) rfl rfl) ?_
      show Go p e below s n0 _ _ _ (T148.setTop (mkF m 110 #[rv ad, iv xk.toInt32, iv 1, rv fr, rv tv, rv b137, iv 1, rv (rs xk)] [(.ref (rs xk))]))
      refine Go.st (fun _ => XS.ifnullNo X148.here C.hx rfl (hb C.hby d3_110) rfl) ?_
      show Go p e below s n0 _ _ _ (T148.setTop (mkF m 113 #[rv ad, iv xk.toInt32, iv 1, rv fr, rv tv, rv b137, iv 1, rv (rs xk)] []))
      refine Go.st (fun _ => XS.aload X148.here C.hx rfl (hb C.hby d3_113) rfl rfl) ?_
      show Go p e below s n0 _ _ _ (T148.setTop (mkF m 115 #[rv ad, iv xk.toInt32, iv 1, rv fr, rv tv, rv b137, iv 1, rv (rs xk)] [(.ref (rs xk))]))
      refine Go.alen C X148 AXX (z := (1 : Int32)) rfl d3_115 ?_
      show Go p e below s n0 _ _ _ (T148.setTop (mkF m 116 #[rv ad, iv xk.toInt32, iv 1, rv fr, rv tv, rv b137, iv 1, rv (rs xk)] [(.int 1)]))
      refine Go.st (fun _ => XS.iload X148.here C.hx rfl (hb C.hby d3_116) rfl) ?_
      show Go p e below s n0 _ _ _ (T148.setTop (mkF m 118 #[rv ad, iv xk.toInt32, iv 1, rv fr, rv tv, rv b137, iv 1, rv (rs xk)] [(.int 1), (.int 1)]))
      refine Go.icmp_eq C X148 (pc' := 123) d3_118 (by decide) (by decide) (fun _ => ?_) (fun hc => absurd hc (by decide))
      show Go p e below s n0 _ _ _ (T148.setTop (mkF m 123 #[rv ad, iv xk.toInt32, iv 1, rv fr, rv tv, rv b137, iv 1, rv (rs xk)] []))
      refine Go.st (fun _ => XS.iload X148.here C.hx rfl (hb C.hby d3_123) rfl) ?_
      show Go p e below s n0 _ _ _ (T148.setTop (mkF m 125 #[rv ad, iv xk.toInt32, iv 1, rv fr, rv tv, rv b137, iv 1, rv (rs xk)] [(.int 1)]))
      refine Go.st (fun _ => XS.iconst X148.here C.hx rfl (hb C.hby d3_125)) ?_
      show Go p e below s n0 _ _ _ (T148.setTop (mkF m 126 #[rv ad, iv xk.toInt32, iv 1, rv fr, rv tv, rv b137, iv 1, rv (rs xk)] [(.int 1), (.int 1)]))
      refine Go.icmp_lt C X148 (pc' := 140) d3_126 (by decide) (by decide) (fun hc => absurd hc (by decide)) (fun _ => ?_)
      show Go p e below s n0 _ _ _ (T148.setTop (mkF m 129 #[rv ad, iv xk.toInt32, iv 1, rv fr, rv tv, rv b137, iv 1, rv (rs xk)] []))
      refine Go.st (fun _ => XS.aload X148.here C.hx rfl (hb C.hby d3_129) rfl rfl) ?_
      show Go p e below s n0 _ _ _ (T148.setTop (mkF m 131 #[rv ad, iv xk.toInt32, iv 1, rv fr, rv tv, rv b137, iv 1, rv (rs xk)] [(.ref (rs xk))]))
      refine Go.st (fun _ => XS.iconst X148.here C.hx rfl (hb C.hby d3_131)) ?_
      show Go p e below s n0 _ _ _ (T148.setTop (mkF m 132 #[rv ad, iv xk.toInt32, iv 1, rv fr, rv tv, rv b137, iv 1, rv (rs xk)] [(.int 0), (.ref (rs xk))]))
      refine Go.iaload C X148 AXX (by decide) rfl d3_132 ?_
      show Go p e below s n0 _ _ _ (T148.setTop (mkF m 133 #[rv ad, iv xk.toInt32, iv 1, rv fr, rv tv, rv b137, iv 1, rv (rs xk)] [(.int t0)]))
      refine Go.st (fun _ => XS.aload X148.here C.hx rfl (hb C.hby d3_133) rfl rfl) ?_
      show Go p e below s n0 _ _ _ (T148.setTop (mkF m 135 #[rv ad, iv xk.toInt32, iv 1, rv fr, rv tv, rv b137, iv 1, rv (rs xk)] [(.ref b137), (.int t0)]))
      refine Go.st (fun _ => XS.iconst X148.here C.hx rfl (hb C.hby d3_135)) ?_
      show Go p e below s n0 _ _ _ (T148.setTop (mkF m 136 #[rv ad, iv xk.toInt32, iv 1, rv fr, rv tv, rv b137, iv 1, rv (rs xk)] [(.int 0), (.ref b137), (.int t0)]))
      refine Go.iaload C X148 A_148 (by decide) rfl d3_136 ?_
      show Go p e below s n0 _ _ _ (T148.setTop (mkF m 137 #[rv ad, iv xk.toInt32, iv 1, rv fr, rv tv, rv b137, iv 1, rv (rs xk)] [(.int t0), (.int t0)]))
      refine Go.icmp_ne C X148 (pc' := 195) d3_137 (by decide) (by decide) (fun hc => by first | exact absurd hc rfl | exact absurd rfl hc) (fun _ => ?_)
      show Go p e below s n0 _ _ _ (T148.setTop (mkF m 140 #[rv ad, iv xk.toInt32, iv 1, rv fr, rv tv, rv b137, iv 1, rv (rs xk)] []))
      refine Go.st (fun _ => XS.iload X148.here C.hx rfl (hb C.hby d3_140) rfl) ?_
      show Go p e below s n0 _ _ _ (T148.setTop (mkF m 142 #[rv ad, iv xk.toInt32, iv 1, rv fr, rv tv, rv b137, iv 1, rv (rs xk)] [(.int 1)]))
      refine Go.st (fun _ => XS.iconst X148.here C.hx rfl (hb C.hby d3_142)) ?_
      show Go p e below s n0 _ _ _ (T148.setTop (mkF m 143 #[rv ad, iv xk.toInt32, iv 1, rv fr, rv tv, rv b137, iv 1, rv (rs xk)] [(.int 2), (.int 1)]))
      refine Go.icmp_lt C X148 (pc' := 157) d3_143 (by decide) (by decide) (fun _ => ?_) (fun hc => absurd hc (by decide))
      show Go p e below s n0 _ _ _ (T148.setTop (mkF m 157 #[rv ad, iv xk.toInt32, iv 1, rv fr, rv tv, rv b137, iv 1, rv (rs xk)] []))
      refine Go.st (fun _ => XS.iload X148.here C.hx rfl (hb C.hby d3_157) rfl) ?_
      show Go p e below s n0 _ _ _ (T148.setTop (mkF m 159 #[rv ad, iv xk.toInt32, iv 1, rv fr, rv tv, rv b137, iv 1, rv (rs xk)] [(.int 1)]))
      refine Go.st (fun _ => XS.iconst X148.here C.hx rfl (hb C.hby d3_159)) ?_
      show Go p e below s n0 _ _ _ (T148.setTop (mkF m 160 #[rv ad, iv xk.toInt32, iv 1, rv fr, rv tv, rv b137, iv 1, rv (rs xk)] [(.int 3), (.int 1)]))
      refine Go.icmp_lt C X148 (pc' := 174) d3_160 (by decide) (by decide) (fun _ => ?_) (fun hc => absurd hc (by decide))
      show Go p e below s n0 _ _ _ (T148.setTop (mkF m 174 #[rv ad, iv xk.toInt32, iv 1, rv fr, rv tv, rv b137, iv 1, rv (rs xk)] []))
      refine Go.st (fun _ => XS.iload X148.here C.hx rfl (hb C.hby d3_174) rfl) ?_
      show Go p e below s n0 _ _ _ (T148.setTop (mkF m 176 #[rv ad, iv xk.toInt32, iv 1, rv fr, rv tv, rv b137, iv 1, rv (rs xk)] [(.int 1)]))
      refine Go.st (fun _ => XS.iconst X148.here C.hx rfl (hb C.hby d3_176)) ?_
      show Go p e below s n0 _ _ _ (T148.setTop (mkF m 177 #[rv ad, iv xk.toInt32, iv 1, rv fr, rv tv, rv b137, iv 1, rv (rs xk)] [(.int 4), (.int 1)]))
      refine Go.icmp_lt C X148 (pc' := 191) d3_177 (by decide) (by decide) (fun _ => ?_) (fun hc => absurd hc (by decide))
      show Go p e below s n0 _ _ _ (T148.setTop (mkF m 191 #[rv ad, iv xk.toInt32, iv 1, rv fr, rv tv, rv b137, iv 1, rv (rs xk)] []))
      refine Go.st (fun _ => XS.iconst X148.here C.hx rfl (hb C.hby d3_191)) ?_
      show Go p e below s n0 _ _ _ (T148.setTop (mkF m 192 #[rv ad, iv xk.toInt32, iv 1, rv fr, rv tv, rv b137, iv 1, rv (rs xk)] [(.int 1)]))
      refine Go.st (fun _ => XS.goto X148.here C.hx rfl (pc0 := 192) (pc' := 196) rfl (hb C.hby d3_192) (by decide) (by decide)) ?_
      show Go p e below s n0 _ _ _ (T148.setTop (mkF m 196 #[rv ad, iv xk.toInt32, iv 1, rv fr, rv tv, rv b137, iv 1, rv (rs xk)] [(.int 1)]))
      exact Go.retZ C X148 (by decide) d3_196 ⟨rfl, K148⟩ (by decide) (by decide)
  · subst hnz
    show Go p e below s n0 _ _ _ (T0.setTop (mkF m 0 #[rv ad, iv xk.toInt32, iv 2, rv fr, rv tv, .unset, .unset, .unset] []))
    refine Go.st (fun _ => XS.iconst X0.here C.hx rfl (hb C.hby d3_0)) ?_
    show Go p e below s n0 _ _ _ (T0.setTop (mkF m 1 #[rv ad, iv xk.toInt32, iv 2, rv fr, rv tv, .unset, .unset, .unset] [(.int 4)]))
    refine Go.newP C X0 (aty := .int) (cap := 4) (wd 4 rfl) d3_1 (by decide) (by decide) (by decide) (by decide) (by decide) (fun T159 h159 b159 g159 ge159 X159 E159 A159 => ?_)
    have ne_ad_b159 : ad ≠ b159 := Nat.ne_of_lt (Nat.lt_of_lt_of_le (O).lt (Nat.le_of_eq g159))
    have ne_fr_b159 : fr ≠ b159 := Nat.ne_of_lt (Nat.lt_of_lt_of_le (AF_).lt (Nat.le_of_eq g159))
    have ne_tv_b159 : tv ≠ b159 := Nat.ne_of_lt (Nat.lt_of_lt_of_le (AT_).lt (Nat.le_of_eq g159))
    have ne__rs_xk__b159 : (rs xk) ≠ b159 := Nat.ne_of_lt (Nat.lt_of_lt_of_le (AX).lt (Nat.le_of_eq g159))
    have K159 : Keep h0 h159 [] := (Keep.refl h0 []).ext E159
    have old_b159 : h0.size ≤ b159 := Nat.le_trans (Keep.refl h0 []).1 (Nat.le_of_eq g159)
    have A_b159 : AR Z h159 b159 .int [(.int 0), (.int 0), (.int 0), (.int 0)] := A159
    show Go p e below s n0 _ _ _ (T159.setTop (mkF m 3 #[rv ad, iv xk.toInt32, iv 2, rv fr, rv tv, .unset, .unset, .unset] [(.ref b159)]))
    refine Go.st (fun _ => XS.astore X159.here C.hx rfl (hb C.hby d3_3) rfl rfl (l' := #[rv ad, iv xk.toInt32, iv 2, rv fr, rv tv, rv b159, .unset, .unset]) rfl) ?_
    show Go p e below s n0 _ _ _ (T159.setTop (mkF m 5 #[rv ad, iv xk.toInt32, iv 2, rv fr, rv tv, rv b159, .unset, .unset] []))
    refine Go.st (fun _ => XS.iconst X159.here C.hx rfl (hb C.hby d3_5)) ?_
    show Go p e below s n0 _ _ _ (T159.setTop (mkF m 6 #[rv ad, iv xk.toInt32, iv 2, rv fr, rv tv, rv b159, .unset, .unset] [(.int 0)]))
    refine Go.st (fun _ => XS.istore X159.here C.hx rfl (hb C.hby d3_6) rfl (l' := #[rv ad, iv xk.toInt32, iv 2, rv fr, rv tv, rv b159, iv 0, .unset]) rfl) ?_
    show Go p e below s n0 _ _ _ (T159.setTop (mkF m 8 #[rv ad, iv xk.toInt32, iv 2, rv fr, rv tv, rv b159, iv 0, .unset] []))
    refine Go.st (fun _ => XS.iloadN X159.here C.hx rfl (hb C.hby d3_8) rfl) ?_
    show Go p e below s n0 _ _ _ (T159.setTop (mkF m 9 #[rv ad, iv xk.toInt32, iv 2, rv fr, rv tv, rv b159, iv 0, .unset] [(.int 2)]))
    refine Go.if_le C X159 (pc' := 31) d3_9 (by decide) (by decide) (fun hc => absurd hc (by decide)) (fun _ => ?_)
    show Go p e below s n0 _ _ _ (T159.setTop (mkF m 12 #[rv ad, iv xk.toInt32, iv 2, rv fr, rv tv, rv b159, iv 0, .unset] []))
    refine Go.st (fun _ => XS.aloadN X159.here C.hx rfl (hb C.hby d3_12) rfl rfl) ?_
    show Go p e below s n0 _ _ _ (T159.setTop (mkF m 13 #[rv ad, iv xk.toInt32, iv 2, rv fr, rv tv, rv b159, iv 0, .unset] [(.ref fr)]))
    refine Go.st (fun _ => XS.iconst X159.here C.hx rfl (hb C.hby d3_13)) ?_
    show Go p e below s n0 _ _ _ (T159.setTop (mkF m 14 #[rv ad, iv xk.toInt32, iv 2, rv fr, rv tv, rv b159, iv 0, .unset] [(.int 0), (.ref fr)]))
    refine Go.iaload C X159 (AF_.ext E159) (by decide) rfl d3_14 ?_
    show Go p e below s n0 _ _ _ (T159.setTop (mkF m 15 #[rv ad, iv xk.toInt32, iv 2, rv fr, rv tv, rv b159, iv 0, .unset] [(.int g0.toInt32)]))
    refine Go.st (fun _ => XS.iloadN X159.here C.hx rfl (hb C.hby d3_15) rfl) ?_
    show Go p e below s n0 _ _ _ (T159.setTop (mkF m 16 #[rv ad, iv xk.toInt32, iv 2, rv fr, rv tv, rv b159, iv 0, .unset] [(.int xk.toInt32), (.int g0.toInt32)]))
    refine Go.icmp_ne C X159 (pc' := 31) d3_16 (by decide) (by decide) (fun hc16_161 => ?_) (fun hc16_161 => ?_)
    · show Go p e below s n0 _ _ _ (T159.setTop (mkF m 31 #[rv ad, iv xk.toInt32, iv 2, rv fr, rv tv, rv b159, iv 0, .unset] []))
      refine Go.st (fun _ => XS.iloadN X159.here C.hx rfl (hb C.hby d3_31) rfl) ?_
      show Go p e below s n0 _ _ _ (T159.setTop (mkF m 32 #[rv ad, iv xk.toInt32, iv 2, rv fr, rv tv, rv b159, iv 0, .unset] [(.int 2)]))
      refine Go.st (fun _ => XS.iconst X159.here C.hx rfl (hb C.hby d3_32)) ?_
      show Go p e below s n0 _ _ _ (T159.setTop (mkF m 33 #[rv ad, iv xk.toInt32, iv 2, rv fr, rv tv, rv b159, iv 0, .unset] [(.int 1), (.int 2)]))
      refine Go.icmp_le C X159 (pc' := 55) d3_33 (by decide) (by decide) (fun hc => absurd hc (by decide)) (fun _ => ?_)
      show Go p e below s n0 _ _ _ (T159.setTop (mkF m 36 #[rv ad, iv xk.toInt32, iv 2, rv fr, rv tv, rv b159, iv 0, .unset] []))
      refine Go.st (fun _ => XS.aloadN X159.here C.hx rfl (hb C.hby d3_36) rfl rfl) ?_
      show Go p e below s n0 _ _ _ (T159.setTop (mkF m 37 #[rv ad, iv xk.toInt32, iv 2, rv fr, rv tv, rv b159, iv 0, .unset] [(.ref fr)]))
      refine Go.st (fun _ => XS.iconst X159.here C.hx rfl (hb C.hby d3_37)) ?_
      show Go p e below s n0 _ _ _ (T159.setTop (mkF m 38 #[rv ad, iv xk.toInt32, iv 2, rv fr, rv tv, rv b159, iv 0, .unset] [(.int 1), (.ref fr)]))
      refine Go.iaload C X159 (AF_.ext E159) (by decide) rfl d3_38 ?_
      show Go p e below s n0 _ _ _ (T159.setTop (mkF m 39 #[rv ad, iv xk.toInt32, iv 2, rv fr, rv tv, rv b159, iv 0, .unset] [(.int g1.toInt32)]))
      refine Go.st (fun _ => XS.iloadN X159.here C.hx rfl (hb C.hby d3_39) rfl) ?_
      show Go p e below s n0 _ _ _ (T159.setTop (mkF m 40 #[rv ad, iv xk.toInt32, iv 2, rv fr, rv tv, rv b159, iv 0, .unset] [(.int xk.toInt32), (.int g1.toInt32)]))
      refine Go.icmp_ne C X159 (pc' := 55) d3_40 (by decide) (by decide) (fun hc40_163 => ?_) (fun hc40_163 => ?_)
      · show Go p e below s n0 _ _ _ (T159.setTop (mkF m 55 #[rv ad, iv xk.toInt32, iv 2, rv fr, rv tv, rv b159, iv 0, .unset] []))
        refine Go.st (fun _ => XS.iloadN X159.here C.hx rfl (hb C.hby d3_55) rfl) ?_
        show Go p e below s n0 _ _ _ (T159.setTop (mkF m 56 #[rv ad, iv xk.toInt32, iv 2, rv fr, rv tv, rv b159, iv 0, .unset] [(.int 2)]))
        refine Go.st (fun _ => XS.iconst X159.here C.hx rfl (hb C.hby d3_56)) ?_
        show Go p e below s n0 _ _ _ (T159.setTop (mkF m 57 #[rv ad, iv xk.toInt32, iv 2, rv fr, rv tv, rv b159, iv 0, .unset] [(.int 2), (.int 2)]))
        refine Go.icmp_le C X159 (pc' := 79) d3_57 (by decide) (by decide) (fun _ => ?_) (fun hc => absurd hc (by decide))
        show Go p e below s n0 _ _ _ (T159.setTop (mkF m 79 #[rv ad, iv xk.toInt32, iv 2, rv fr, rv tv, rv b159, iv 0, .unset] []))
        refine Go.st (fun _ => XS.iloadN X159.here C.hx rfl (hb C.hby d3_79) rfl) ?_
        show Go p e below s n0 _ _ _ (T159.setTop (mkF m 80 #[rv ad, iv xk.toInt32, iv 2, rv fr, rv tv, rv b159, iv 0, .unset] [(.int 2)]))
        refine Go.st (fun _ => XS.iconst X159.here C.hx rfl (hb C.hby d3_80)) ?_
        show Go p e below s n0 _ _ _ (T159.setTop (mkF m 81 #[rv ad, iv xk.toInt32, iv 2, rv fr, rv tv, rv b159, iv 0, .unset] [(.int 3), (.int 2)]))
        refine Go.icmp_le C X159 (pc' := 103) d3_81 (by decide) (by decide) (fun _ => ?_) (fun hc => absurd hc (by decide))
        have p0 := eq_false (fun u : xk = g0 => hc16_161 ((eqI (by omega) (by omega)).mpr u.symm))
        have p1 := eq_false (fun u : xk = g1 => hc40_163 ((eqI (by omega) (by omega)).mpr u.symm))
        have RL : rowP (fsF g0 g1 g2 g3) (tsF t0 t1 t2 t3) 2 2 xk = [] := by
          simp only [rowP, cnt, fsF0, tsF0, fsF1, tsF1, p0, p1, if_true, if_false]
          try rfl
        have AXX : AR Z h159 (rs xk) .int [] := by have u := (AX.ext E159); rw [RL] at u; exact u
        show Go p e below s n0 _ _ _ (T159.setTop (mkF m 103 #[rv ad, iv xk.toInt32, iv 2, rv fr, rv tv, rv b159, iv 0, .unset] []))
        refine Go.st (fun _ => XS.aloadN X159.here C.hx rfl (hb C.hby d3_103) rfl rfl) ?_
        show Go p e below s n0 _ _ _ (T159.setTop (mkF m 104 #[rv ad, iv xk.toInt32, iv 2, rv fr, rv tv, rv b159, iv 0, .unset] [(.ref ad)]))
        refine Go.st (fun _ => XS.iloadN X159.here C.hx rfl (hb C.hby d3_104) rfl) ?_
        show Go p e below s n0 _ _ _ (T159.setTop (mkF m 105 #[rv ad, iv xk.toInt32, iv 2, rv fr, rv tv, rv b159, iv 0, .unset] [(.int xk.toInt32), (.ref ad)]))
        refine Go.aaload C X159 ((O.ext E159)).ar rfl (nn32 (by omega)) (ou_get hc hx) d3_105 ?_
        show Go p e below s n0 _ _ _ (T159.setTop (mkF m 106 #[rv ad, iv xk.toInt32, iv 2, rv fr, rv tv, rv b159, iv 0, .unset] [(.ref (rs xk))]))
        refine Go.st (fun _ => XS.astore X159.here C.hx rfl (hb C.hby d3_106) rfl rfl (l' := #[rv ad, iv xk.toInt32, iv 2, rv fr, rv tv, rv b159, iv 0, rv (rs xk)]) rfl) ?_
        show Go p e below s n0 _ _ _ (T159.setTop (mkF m 108 #[rv ad, iv xk.toInt32, iv 2, rv fr, rv tv, rv b159, iv 0, rv (rs xk)] []))
        refine Go.st (fun _ => XS.aload X159.here C.hx rfl (hb C.hby d3_108) rfl rfl) ?_
        show Go p e below s n0 _ _ _ (T159.setTop (mkF m 110 #[rv ad, iv xk.toInt32, iv 2, rv fr, rv tv, rv b159, iv 0, rv (rs xk)] [(.ref (rs xk))]))
        refine Go.st (fun _ => XS.ifnullNo X159.here C.hx rfl (hb C.hby d3_110) rfl) ?_
        show Go p e below s n0 _ _ _ (T159.setTop (mkF m 113 #[rv ad, iv xk.toInt32, iv 2, rv fr, rv tv, rv b159, iv 0, rv (rs xk)] []))
        refine Go.st (fun _ => XS.aload X159.here C.hx rfl (hb C.hby d3_113) rfl rfl) ?_
        show Go p e below s n0 _ _ _ (T159.setTop (mkF m 115 #[rv ad, iv xk.toInt32, iv 2, rv fr, rv tv, rv b159, iv 0, rv (rs xk)] [(.ref (rs xk))]))
        refine Go.alen C X159 AXX (z := (0 : Int32)) rfl d3_115 ?_
        show Go p e below s n0 _ _ _ (T159.setTop (mkF m 116 #[rv ad, iv xk.toInt32, iv 2, rv fr, rv tv, rv b159, iv 0, rv (rs xk)] [(.int 0)]))
        refine Go.st (fun _ => XS.iload X159.here C.hx rfl (hb C.hby d3_116) rfl) ?_
        show Go p e below s n0 _ _ _ (T159.setTop (mkF m 118 #[rv ad, iv xk.toInt32, iv 2, rv fr, rv tv, rv b159, iv 0, rv (rs xk)] [(.int 0), (.int 0)]))
        refine Go.icmp_eq C X159 (pc' := 123) d3_118 (by decide) (by decide) (fun _ => ?_) (fun hc => absurd hc (by decide))
        show Go p e below s n0 _ _ _ (T159.setTop (mkF m 123 #[rv ad, iv xk.toInt32, iv 2, rv fr, rv tv, rv b159, iv 0, rv (rs xk)] []))
        refine Go.st (fun _ => XS.iload X159.here C.hx rfl (hb C.hby d3_123) rfl) ?_
        show Go p e below s n0 _ _ _ (T159.setTop (mkF m 125 #[rv ad, iv xk.toInt32, iv 2, rv fr, rv tv, rv b159, iv 0, rv (rs xk)] [(.int 0)]))
        refine Go.st (fun _ => XS.iconst X159.here C.hx rfl (hb C.hby d3_125)) ?_
        show Go p e below s n0 _ _ _ (T159.setTop (mkF m 126 #[rv ad, iv xk.toInt32, iv 2, rv fr, rv tv, rv b159, iv 0, rv (rs xk)] [(.int 1), (.int 0)]))
        refine Go.icmp_lt C X159 (pc' := 140) d3_126 (by decide) (by decide) (fun _ => ?_) (fun hc => absurd hc (by decide))
        show Go p e below s n0 _ _ _ (T159.setTop (mkF m 140 #[rv ad, iv xk.toInt32, iv 2, rv fr, rv tv, rv b159, iv 0, rv (rs xk)] []))
        refine Go.st (fun _ => XS.iload X159.here C.hx rfl (hb C.hby d3_140) rfl) ?_
        show Go p e below s n0 _ _ _ (T159.setTop (mkF m 142 #[rv ad, iv xk.toInt32, iv 2, rv fr, rv tv, rv b159, iv 0, rv (rs xk)] [(.int 0)]))
        refine Go.st (fun _ => XS.iconst X159.here C.hx rfl (hb C.hby d3_142)) ?_
        show Go p e below s n0 _ _ _ (T159.setTop (mkF m 143 #[rv ad, iv xk.toInt32, iv 2, rv fr, rv tv, rv b159, iv 0, rv (rs xk)] [(.int 2), (.int 0)]))
        refine Go.icmp_lt C X159 (pc' := 157) d3_143 (by decide) (by decide) (fun _ => ?_) (fun hc => absurd hc (by decide))
        show Go p e below s n0 _ _ _ (T159.setTop (mkF m 157 #[rv ad, iv xk.toInt32, iv 2, rv fr, rv tv, rv b159, iv 0, rv (rs xk)] []))
        refine Go.st (fun _ => XS.iload X159.here C.hx rfl (hb C.hby d3_157) rfl) ?_
        show Go p e below s n0 _ _ _ (T159.setTop (mkF m 159 #[rv ad, iv xk.toInt32, iv 2, rv fr, rv tv, rv b159, iv 0, rv (rs xk)] [(.int 0)]))
        refine Go.st (fun _ => XS.iconst X159.here C.hx rfl (hb C.hby d3_159)) ?_
        show Go p e below s n0 _ _ _ (T159.setTop (mkF m 160 #[rv ad, iv xk.toInt32, iv 2, rv fr, rv tv, rv b159, iv 0, rv (rs xk)] [(.int 3), (.int 0)]))
        refine Go.icmp_lt C X159 (pc' := 174) d3_160 (by decide) (by decide) (fun _ => ?_) (fun hc => absurd hc (by decide))
        show Go p e below s n0 _ _ _ (T159.setTop (mkF m 174 #[rv ad, iv xk.toInt32, iv 2, rv fr, rv tv, rv b159, iv 0, rv (rs xk)] []))
        refine Go.st (fun _ => XS.iload X159.here C.hx rfl (hb C.hby d3_174) rfl) ?_
        show Go p e below s n0 _ _ _ (T159.setTop (mkF m 176 #[rv ad, iv xk.toInt32, iv 2, rv fr, rv tv, rv b159, iv 0, rv (rs xk)] [(.int 0)]))
        refine Go.st (fun _ => XS.iconst X159.here C.hx rfl (hb C.hby d3_176)) ?_
        show Go p e below s n0 _ _ _ (T159.setTop (mkF m 177 #[rv ad, iv xk.toInt32, iv 2, rv fr, rv tv, rv b159, iv 0, rv (rs xk)] [(.int 4), (.int 0)]))
        refine Go.icmp_lt C X159 (pc' := 191) d3_177 (by decide) (by decide) (fun _ => ?_) (fun hc => absurd hc (by decide))
        show Go p e below s n0 _ _ _ (T159.setTop (mkF m 191 #[rv ad, iv xk.toInt32, iv 2, rv fr, rv tv, rv b159, iv 0, rv (rs xk)] []))
        refine Go.st (fun _ => XS.iconst X159.here C.hx rfl (hb C.hby d3_191)) ?_
        show Go p e below s n0 _ _ _ (T159.setTop (mkF m 192 #[rv ad, iv xk.toInt32, iv 2, rv fr, rv tv, rv b159, iv 0, rv (rs xk)] [(.int 1)]))
        refine Go.st (fun _ => XS.goto X159.here C.hx rfl (pc0 := 192) (pc' := 196) rfl (hb C.hby d3_192) (by decide) (by decide)) ?_
        show Go p e below s n0 _ _ _ (T159.setTop (mkF m 196 #[rv ad, iv xk.toInt32, iv 2, rv fr, rv tv, rv b159, iv 0, rv (rs xk)] [(.int 1)]))
        exact Go.retZ C X159 (by decide) d3_196 ⟨rfl, K159⟩ (by decide) (by decide)
      · show Go p e below s n0 _ _ _ (T159.setTop (mkF m 43 #[rv ad, iv xk.toInt32, iv 2, rv fr, rv tv, rv b159, iv 0, .unset] []))
        refine Go.st (fun _ => XS.aload X159.here C.hx rfl (hb C.hby d3_43) rfl rfl) ?_
        show Go p e below s n0 _ _ _ (T159.setTop (mkF m 45 #[rv ad, iv xk.toInt32, iv 2, rv fr, rv tv, rv b159, iv 0, .unset] [(.ref b159)]))
        refine Go.st (fun _ => XS.iload X159.here C.hx rfl (hb C.hby d3_45) rfl) ?_
        show Go p e below s n0 _ _ _ (T159.setTop (mkF m 47 #[rv ad, iv xk.toInt32, iv 2, rv fr, rv tv, rv b159, iv 0, .unset] [(.int 0), (.ref b159)]))
        refine Go.st (fun _ => XS.aload X159.here C.hx rfl (hb C.hby d3_47) rfl rfl) ?_
        show Go p e below s n0 _ _ _ (T159.setTop (mkF m 49 #[rv ad, iv xk.toInt32, iv 2, rv fr, rv tv, rv b159, iv 0, .unset] [(.ref tv), (.int 0), (.ref b159)]))
        refine Go.st (fun _ => XS.iconst X159.here C.hx rfl (hb C.hby d3_49)) ?_
        show Go p e below s n0 _ _ _ (T159.setTop (mkF m 50 #[rv ad, iv xk.toInt32, iv 2, rv fr, rv tv, rv b159, iv 0, .unset] [(.int 1), (.ref tv), (.int 0), (.ref b159)]))
        refine Go.iaload C X159 (AT_.ext E159) (by decide) rfl d3_50 ?_
        show Go p e below s n0 _ _ _ (T159.setTop (mkF m 51 #[rv ad, iv xk.toInt32, iv 2, rv fr, rv tv, rv b159, iv 0, .unset] [(.int t1), (.int 0), (.ref b159)]))
        refine Go.iastore C X159 A_b159 (by decide) (Nat.le_of_ble_eq_true rfl) ge159 d3_51 (fun T171 h171 X171 W171 A171 => ?_)
        have A_171 : AR Z h171 b159 .int [(.int t1), (.int 0), (.int 0), (.int 0)] := A171
        have AX_172 : AR Z h171 (rs xk) .int ((rowP (fsF g0 g1 g2 g3) (tsF t0 t1 t2 t3) 2 2 xk).map Value.int) := ((AX.ext E159).other W171 ne__rs_xk__b159)
        have K171 : Keep h0 h171 [] := K159.wr W171 (Or.inr old_b159)
        show Go p e below s n0 _ _ _ (T171.setTop (mkF m 52 #[rv ad, iv xk.toInt32, iv 2, rv fr, rv tv, rv b159, iv 0, .unset] []))
        refine Go.st (fun _ => XS.iinc X171.here C.hx rfl (hb C.hby d3_52) rfl (l' := #[rv ad, iv xk.toInt32, iv 2, rv fr, rv tv, rv b159, iv 1, .unset]) rfl) ?_
        show Go p e below s n0 _ _ _ (T171.setTop (mkF m 55 #[rv ad, iv xk.toInt32, iv 2, rv fr, rv tv, rv b159, iv 1, .unset] []))
        refine Go.st (fun _ => XS.iloadN X171.here C.hx rfl (hb C.hby d3_55) rfl) ?_
        show Go p e below s n0 _ _ _ (T171.setTop (mkF m 56 #[rv ad, iv xk.toInt32, iv 2, rv fr, rv tv, rv b159, iv 1, .unset] [(.int 2)]))
        refine Go.st (fun _ => XS.iconst X171.here C.hx rfl (hb C.hby d3_56)) ?_
        show Go p e below s n0 _ _ _ (T171.setTop (mkF m 57 #[rv ad, iv xk.toInt32, iv 2, rv fr, rv tv, rv b159, iv 1, .unset] [(.int 2), (.int 2)]))
        refine Go.icmp_le C X171 (pc' := 79) d3_57 (by decide) (by decide) (fun _ => ?_) (fun hc => absurd hc (by decide))
        show Go p e below s n0 _ _ _ (T171.setTop (mkF m 79 #[rv ad, iv xk.toInt32, iv 2, rv fr, rv tv, rv b159, iv 1, .unset] []))
        refine Go.st (fun _ => XS.iloadN X171.here C.hx rfl (hb C.hby d3_79) rfl) ?_
        show Go p e below s n0 _ _ _ (T171.setTop (mkF m 80 #[rv ad, iv xk.toInt32, iv 2, rv fr, rv tv, rv b159, iv 1, .unset] [(.int 2)]))
        refine Go.st (fun _ => XS.iconst X171.here C.hx rfl (hb C.hby d3_80)) ?_
        show Go p e below s n0 _ _ _ (T171.setTop (mkF m 81 #[rv ad, iv xk.toInt32, iv 2, rv fr, rv tv, rv b159, iv 1, .unset] [(.int 3), (.int 2)]))
        refine Go.icmp_le C X171 (pc' := 103) d3_81 (by decide) (by decide) (fun _ => ?_) (fun hc => absurd hc (by decide))
        have p0 := eq_false (fun u : xk = g0 => hc16_161 ((eqI (by omega) (by omega)).mpr u.symm))
        have p1 := eq_true ((eqI (by omega) (by omega)).mp hc40_163).symm
        have RL : rowP (fsF g0 g1 g2 g3) (tsF t0 t1 t2 t3) 2 2 xk = [t1] := by
          simp only [rowP, cnt, fsF0, tsF0, fsF1, tsF1, p0, p1, if_true, if_false]
          try rfl
        have AXX : AR Z h171 (rs xk) .int [(.int t1)] := by have u := AX_172; rw [RL] at u; exact u
        show Go p e below s n0 _ _ _ (T171.setTop (mkF m 103 #[rv ad, iv xk.toInt32, iv 2, rv fr, rv tv, rv b159, iv 1, .unset] []))
        refine Go.st (fun _ => XS.aloadN X171.here C.hx rfl (hb C.hby d3_103) rfl rfl) ?_
        show Go p e below s n0 _ _ _ (T171.setTop (mkF m 104 #[rv ad, iv xk.toInt32, iv 2, rv fr, rv tv, rv b159, iv 1, .unset] [(.ref ad)]))
        refine Go.st (fun _ => XS.iloadN X171.here C.hx rfl (hb C.hby d3_104) rfl) ?_
        show Go p e below s n0 _ _ _ (T171.setTop (mkF m 105 #[rv ad, iv xk.toInt32, iv 2, rv fr, rv tv, rv b159, iv 1, .unset] [(.int xk.toInt32), (.ref ad)]))
        refine Go.aaload C X171 (((O.ext E159).other W171 ne_ad_b159)).ar rfl (nn32 (by omega)) (ou_get hc hx) d3_105 ?_
        show Go p e below s n0 _ _ _ (T171.setTop (mkF m 106 #[rv ad, iv xk.toInt32, iv 2, rv fr, rv tv, rv b159, iv 1, .unset] [(.ref (rs xk))]))
        refine Go.st (fun _ => XS.astore X171.here C.hx rfl (hb C.hby d3_106) rfl rfl (l' := #[rv ad, iv xk.toInt32, iv 2, rv fr, rv tv, rv b159, iv 1, rv (rs xk)]) rfl) ?_
        show Go p e below s n0 _ _ _ (T171.setTop (mkF m 108 #[rv ad, iv xk.toInt32, iv 2, rv fr, rv tv, rv b159, iv 1, rv (rs xk)] []))
        refine Go.st (fun _ => XS.aload X171.here C.hx rfl (hb C.hby d3_108) rfl rfl) ?_
        show Go p e below s n0 _ _ _ (T171.setTop (mkF m 110 #[rv ad, iv xk.toInt32, iv 2, rv fr, rv tv, rv b159, iv 1, rv (rs xk)] [(.ref (rs xk))]))
        refine Go.st (fun _ => XS.ifnullNo X171.here C.hx rfl (hb C.hby d3_110) rfl) ?_
        show Go p e below s n0 _ _ _ (T171.setTop (mkF m 113 #[rv ad, iv xk.toInt32, iv 2, rv fr, rv tv, rv b159, iv 1, rv (rs xk)] []))
        refine Go.st (fun _ => XS.aload X171.here C.hx rfl (hb C.hby d3_113) rfl rfl) ?_
        show Go p e below s n0 _ _ _ (T171.setTop (mkF m 115 #[rv ad, iv xk.toInt32, iv 2, rv fr, rv tv, rv b159, iv 1, rv (rs xk)] [(.ref (rs xk))]))
        refine Go.alen C X171 AXX (z := (1 : Int32)) rfl d3_115 ?_
        show Go p e below s n0 _ _ _ (T171.setTop (mkF m 116 #[rv ad, iv xk.toInt32, iv 2, rv fr, rv tv, rv b159, iv 1, rv (rs xk)] [(.int 1)]))
        refine Go.st (fun _ => XS.iload X171.here C.hx rfl (hb C.hby d3_116) rfl) ?_
        show Go p e below s n0 _ _ _ (T171.setTop (mkF m 118 #[rv ad, iv xk.toInt32, iv 2, rv fr, rv tv, rv b159, iv 1, rv (rs xk)] [(.int 1), (.int 1)]))
        refine Go.icmp_eq C X171 (pc' := 123) d3_118 (by decide) (by decide) (fun _ => ?_) (fun hc => absurd hc (by decide))
        show Go p e below s n0 _ _ _ (T171.setTop (mkF m 123 #[rv ad, iv xk.toInt32, iv 2, rv fr, rv tv, rv b159, iv 1, rv (rs xk)] []))
        refine Go.st (fun _ => XS.iload X171.here C.hx rfl (hb C.hby d3_123) rfl) ?_
        show Go p e below s n0 _ _ _ (T171.setTop (mkF m 125 #[rv ad, iv xk.toInt32, iv 2, rv fr, rv tv, rv b159, iv 1, rv (rs xk)] [(.int 1)]))
        refine Go.st (fun _ => XS.iconst X171.here C.hx rfl (hb C.hby d3_125)) ?_
        show Go p e below s n0 _ _ _ (T171.setTop (mkF m 126 #[rv ad, iv xk.toInt32, iv 2, rv fr, rv tv, rv b159, iv 1, rv (rs xk)] [(.int 1), (.int 1)]))
        refine Go.icmp_lt C X171 (pc' := 140) d3_126 (by decide) (by decide) (fun hc => absurd hc (by decide)) (fun _ => ?_)
        show Go p e below s n0 _ _ _ (T171.setTop (mkF m 129 #[rv ad, iv xk.toInt32, iv 2, rv fr, rv tv, rv b159, iv 1, rv (rs xk)] []))
        refine Go.st (fun _ => XS.aload X171.here C.hx rfl (hb C.hby d3_129) rfl rfl) ?_
        show Go p e below s n0 _ _ _ (T171.setTop (mkF m 131 #[rv ad, iv xk.toInt32, iv 2, rv fr, rv tv, rv b159, iv 1, rv (rs xk)] [(.ref (rs xk))]))
        refine Go.st (fun _ => XS.iconst X171.here C.hx rfl (hb C.hby d3_131)) ?_
        show Go p e below s n0 _ _ _ (T171.setTop (mkF m 132 #[rv ad, iv xk.toInt32, iv 2, rv fr, rv tv, rv b159, iv 1, rv (rs xk)] [(.int 0), (.ref (rs xk))]))
        refine Go.iaload C X171 AXX (by decide) rfl d3_132 ?_
        show Go p e below s n0 _ _ _ (T171.setTop (mkF m 133 #[rv ad, iv xk.toInt32, iv 2, rv fr, rv tv, rv b159, iv 1, rv (rs xk)] [(.int t1)]))
        refine Go.st (fun _ => XS.aload X171.here C.hx rfl (hb C.hby d3_133) rfl rfl) ?_
        show Go p e below s n0 _ _ _ (T171.setTop (mkF m 135 #[rv ad, iv xk.toInt32, iv 2, rv fr, rv tv, rv b159, iv 1, rv (rs xk)] [(.ref b159), (.int t1)]))
        refine Go.st (fun _ => XS.iconst X171.here C.hx rfl (hb C.hby d3_135)) ?_
        show Go p e below s n0 _ _ _ (T171.setTop (mkF m 136 #[rv ad, iv xk.toInt32, iv 2, rv fr, rv tv, rv b159, iv 1, rv (rs xk)] [(.int 0), (.ref b159), (.int t1)]))
        refine Go.iaload C X171 A_171 (by decide) rfl d3_136 ?_
        show Go p e below s n0 _ _ _ (T171.setTop (mkF m 137 #[rv ad, iv xk.toInt32, iv 2, rv fr, rv tv, rv b159, iv 1, rv (rs xk)] [(.int t1), (.int t1)]))
        refine Go.icmp_ne C X171 (pc' := 195) d3_137 (by decide) (by decide) (fun hc => by first | exact absurd hc rfl | exact absurd rfl hc) (fun _ => ?_)
        show Go p e below s n0 _ _ _ (T171.setTop (mkF m 140 #[rv ad, iv xk.toInt32, iv 2, rv fr, rv tv, rv b159, iv 1, rv (rs xk)] []))
        refine Go.st (fun _ => XS.iload X171.here C.hx rfl (hb C.hby d3_140) rfl) ?_
        show Go p e below s n0 _ _ _ (T171.setTop (mkF m 142 #[rv ad, iv xk.toInt32, iv 2, rv fr, rv tv, rv b159, iv 1, rv (rs xk)] [(.int 1)]))
        refine Go.st (fun _ => XS.iconst X171.here C.hx rfl (hb C.hby d3_142)) ?_
        show Go p e below s n0 _ _ _ (T171.setTop (mkF m 143 #[rv ad, iv xk.toInt32, iv 2, rv fr, rv tv, rv b159, iv 1, rv (rs xk)] [(.int 2), (.int 1)]))
        refine Go.icmp_lt C X171 (pc' := 157) d3_143 (by decide) (by decide) (fun _ => ?_) (fun hc => absurd hc (by decide))
        show Go p e below s n0 _ _ _ (T171.setTop (mkF m 157 #[rv ad, iv xk.toInt32, iv 2, rv fr, rv tv, rv b159, iv 1, rv (rs xk)] []))
        refine Go.st (fun _ => XS.iload X171.here C.hx rfl (hb C.hby d3_157) rfl) ?_
        show Go p e below s n0 _ _ _ (T171.setTop (mkF m 159 #[rv ad, iv xk.toInt32, iv 2, rv fr, rv tv, rv b159, iv 1, rv (rs xk)] [(.int 1)]))
        refine Go.st (fun _ => XS.iconst X171.here C.hx rfl (hb C.hby d3_159)) ?_
        show Go p e below s n0 _ _ _ (T171.setTop (mkF m 160 #[rv ad, iv xk.toInt32, iv 2, rv fr, rv tv, rv b159, iv 1, rv (rs xk)] [(.int 3), (.int 1)]))
        refine Go.icmp_lt C X171 (pc' := 174) d3_160 (by decide) (by decide) (fun _ => ?_) (fun hc => absurd hc (by decide))
        show Go p e below s n0 _ _ _ (T171.setTop (mkF m 174 #[rv ad, iv xk.toInt32, iv 2, rv fr, rv tv, rv b159, iv 1, rv (rs xk)] []))
        refine Go.st (fun _ => XS.iload X171.here C.hx rfl (hb C.hby d3_174) rfl) ?_
        show Go p e below s n0 _ _ _ (T171.setTop (mkF m 176 #[rv ad, iv xk.toInt32, iv 2, rv fr, rv tv, rv b159, iv 1, rv (rs xk)] [(.int 1)]))
        refine Go.st (fun _ => XS.iconst X171.here C.hx rfl (hb C.hby d3_176)) ?_
        show Go p e below s n0 _ _ _ (T171.setTop (mkF m 177 #[rv ad, iv xk.toInt32, iv 2, rv fr, rv tv, rv b159, iv 1, rv (rs xk)] [(.int 4), (.int 1)]))
        refine Go.icmp_lt C X171 (pc' := 191) d3_177 (by decide) (by decide) (fun _ => ?_) (fun hc => absurd hc (by decide))
        show Go p e below s n0 _ _ _ (T171.setTop (mkF m 191 #[rv ad, iv xk.toInt32, iv 2, rv fr, rv tv, rv b159, iv 1, rv (rs xk)] []))
        refine Go.st (fun _ => XS.iconst X171.here C.hx rfl (hb C.hby d3_191)) ?_
        show Go p e below s n0 _ _ _ (T171.setTop (mkF m 192 #[rv ad, iv xk.toInt32, iv 2, rv fr, rv tv, rv b159, iv 1, rv (rs xk)] [(.int 1)]))
        refine Go.st (fun _ => XS.goto X171.here C.hx rfl (pc0 := 192) (pc' := 196) rfl (hb C.hby d3_192) (by decide) (by decide)) ?_
        show Go p e below s n0 _ _ _ (T171.setTop (mkF m 196 #[rv ad, iv xk.toInt32, iv 2, rv fr, rv tv, rv b159, iv 1, rv (rs xk)] [(.int 1)]))
        exact Go.retZ C X171 (by decide) d3_196 ⟨rfl, K171⟩ (by decide) (by decide)
    · show Go p e below s n0 _ _ _ (T159.setTop (mkF m 19 #[rv ad, iv xk.toInt32, iv 2, rv fr, rv tv, rv b159, iv 0, .unset] []))
      refine Go.st (fun _ => XS.aload X159.here C.hx rfl (hb C.hby d3_19) rfl rfl) ?_
      show Go p e below s n0 _ _ _ (T159.setTop (mkF m 21 #[rv ad, iv xk.toInt32, iv 2, rv fr, rv tv, rv b159, iv 0, .unset] [(.ref b159)]))
      refine Go.st (fun _ => XS.iload X159.here C.hx rfl (hb C.hby d3_21) rfl) ?_
      show Go p e below s n0 _ _ _ (T159.setTop (mkF m 23 #[rv ad, iv xk.toInt32, iv 2, rv fr, rv tv, rv b159, iv 0, .unset] [(.int 0), (.ref b159)]))
      refine Go.st (fun _ => XS.aload X159.here C.hx rfl (hb C.hby d3_23) rfl rfl) ?_
      show Go p e below s n0 _ _ _ (T159.setTop (mkF m 25 #[rv ad, iv xk.toInt32, iv 2, rv fr, rv tv, rv b159, iv 0, .unset] [(.ref tv), (.int 0), (.ref b159)]))
      refine Go.st (fun _ => XS.iconst X159.here C.hx rfl (hb C.hby d3_25)) ?_
      show Go p e below s n0 _ _ _ (T159.setTop (mkF m 26 #[rv ad, iv xk.toInt32, iv 2, rv fr, rv tv, rv b159, iv 0, .unset] [(.int 0), (.ref tv), (.int 0), (.ref b159)]))
      refine Go.iaload C X159 (AT_.ext E159) (by decide) rfl d3_26 ?_
      show Go p e below s n0 _ _ _ (T159.setTop (mkF m 27 #[rv ad, iv xk.toInt32, iv 2, rv fr, rv tv, rv b159, iv 0, .unset] [(.int t0), (.int 0), (.ref b159)]))
      refine Go.iastore C X159 A_b159 (by decide) (Nat.le_of_ble_eq_true rfl) ge159 d3_27 (fun T181 h181 X181 W181 A181 => ?_)
      have A_181 : AR Z h181 b159 .int [(.int t0), (.int 0), (.int 0), (.int 0)] := A181
      have AX_182 : AR Z h181 (rs xk) .int ((rowP (fsF g0 g1 g2 g3) (tsF t0 t1 t2 t3) 2 2 xk).map Value.int) := ((AX.ext E159).other W181 ne__rs_xk__b159)
      have K181 : Keep h0 h181 [] := K159.wr W181 (Or.inr old_b159)
      show Go p e below s n0 _ _ _ (T181.setTop (mkF m 28 #[rv ad, iv xk.toInt32, iv 2, rv fr, rv tv, rv b159, iv 0, .unset] []))
      refine Go.st (fun _ => XS.iinc X181.here C.hx rfl (hb C.hby d3_28) rfl (l' := #[rv ad, iv xk.toInt32, iv 2, rv fr, rv tv, rv b159, iv 1, .unset]) rfl) ?_
      show Go p e below s n0 _ _ _ (T181.setTop (mkF m 31 #[rv ad, iv xk.toInt32, iv 2, rv fr, rv tv, rv b159, iv 1, .unset] []))
      refine Go.st (fun _ => XS.iloadN X181.here C.hx rfl (hb C.hby d3_31) rfl) ?_
      show Go p e below s n0 _ _ _ (T181.setTop (mkF m 32 #[rv ad, iv xk.toInt32, iv 2, rv fr, rv tv, rv b159, iv 1, .unset] [(.int 2)]))
      refine Go.st (fun _ => XS.iconst X181.here C.hx rfl (hb C.hby d3_32)) ?_
      show Go p e below s n0 _ _ _ (T181.setTop (mkF m 33 #[rv ad, iv xk.toInt32, iv 2, rv fr, rv tv, rv b159, iv 1, .unset] [(.int 1), (.int 2)]))
      refine Go.icmp_le C X181 (pc' := 55) d3_33 (by decide) (by decide) (fun hc => absurd hc (by decide)) (fun _ => ?_)
      show Go p e below s n0 _ _ _ (T181.setTop (mkF m 36 #[rv ad, iv xk.toInt32, iv 2, rv fr, rv tv, rv b159, iv 1, .unset] []))
      refine Go.st (fun _ => XS.aloadN X181.here C.hx rfl (hb C.hby d3_36) rfl rfl) ?_
      show Go p e below s n0 _ _ _ (T181.setTop (mkF m 37 #[rv ad, iv xk.toInt32, iv 2, rv fr, rv tv, rv b159, iv 1, .unset] [(.ref fr)]))
      refine Go.st (fun _ => XS.iconst X181.here C.hx rfl (hb C.hby d3_37)) ?_
      show Go p e below s n0 _ _ _ (T181.setTop (mkF m 38 #[rv ad, iv xk.toInt32, iv 2, rv fr, rv tv, rv b159, iv 1, .unset] [(.int 1), (.ref fr)]))
      refine Go.iaload C X181 ((AF_.ext E159).other W181 ne_fr_b159) (by decide) rfl d3_38 ?_
      show Go p e below s n0 _ _ _ (T181.setTop (mkF m 39 #[rv ad, iv xk.toInt32, iv 2, rv fr, rv tv, rv b159, iv 1, .unset] [(.int g1.toInt32)]))
      refine Go.st (fun _ => XS.iloadN X181.here C.hx rfl (hb C.hby d3_39) rfl) ?_
      show Go p e below s n0 _ _ _ (T181.setTop (mkF m 40 #[rv ad, iv xk.toInt32, iv 2, rv fr, rv tv, rv b159, iv 1, .unset] [(.int xk.toInt32), (.int g1.toInt32)]))
      refine Go.icmp_ne C X181 (pc' := 55) d3_40 (by decide) (by decide) (fun hc40_184 => ?_) (fun hc40_184 => ?_)
      · show Go p e below s n0 _ _ _ (T181.setTop (mkF m 55 #[rv ad, iv xk.toInt32, iv 2, rv fr, rv tv, rv b159, iv 1, .unset] []))
        refine Go.st (fun _ => XS.iloadN X181.here C.hx rfl (hb C.hby d3_55) rfl) ?_
        show Go p e below s n0 _ _ _ (T181.setTop (mkF m 56 #[rv ad, iv xk.toInt32, iv 2, rv fr, rv tv, rv b159, iv 1, .unset] [(.int 2)]))
        refine Go.st (fun _ => XS.iconst X181.here C.hx rfl (hb C.hby d3_56)) ?_
        show Go p e below s n0 _ _ _ (T181.setTop (mkF m 57 #[rv ad, iv xk.toInt32, iv 2, rv fr, rv tv, rv b159, iv 1, .unset] [(.int 2), (.int 2)]))
        refine Go.icmp_le C X181 (pc' := 79) d3_57 (by decide) (by decide) (fun _ => ?_) (fun hc => absurd hc (by decide))
        show Go p e below s n0 _ _ _ (T181.setTop (mkF m 79 #[rv ad, iv xk.toInt32, iv 2, rv fr, rv tv, rv b159, iv 1, .unset] []))
        refine Go.st (fun _ => XS.iloadN X181.here C.hx rfl (hb C.hby d3_79) rfl) ?_
        show Go p e below s n0 _ _ _ (T181.setTop (mkF m 80 #[rv ad, iv xk.toInt32, iv 2, rv fr, rv tv, rv b159, iv 1, .unset] [(.int 2)]))
        refine Go.st (fun _ => XS.iconst X181.here C.hx rfl (hb C.hby d3_80)) ?_
        show Go p e below s n0 _ _ _ (T181.setTop (mkF m 81 #[rv ad, iv xk.toInt32, iv 2, rv fr, rv tv, rv b159, iv 1, .unset] [(.int 3), (.int 2)]))
        refine Go.icmp_le C X181 (pc' := 103) d3_81 (by decide) (by decide) (fun _ => ?_) (fun hc => absurd hc (by decide))
        have p0 := eq_true ((eqI (by omega) (by omega)).mp hc16_161).symm
        have p1 := eq_false (fun u : xk = g1 => hc40_184 ((eqI (by omega) (by omega)).mpr u.symm))
        have RL : rowP (fsF g0 g1 g2 g3) (tsF t0 t1 t2 t3) 2 2 xk = [t0] := by
          simp only [rowP, cnt, fsF0, tsF0, fsF1, tsF1, p0, p1, if_true, if_false]
          try rfl
        have AXX : AR Z h181 (rs xk) .int [(.int t0)] := by have u := AX_182; rw [RL] at u; exact u
        show Go p e below s n0 _ _ _ (T181.setTop (mkF m 103 #[rv ad, iv xk.toInt32, iv 2, rv fr, rv tv, rv b159, iv 1, .unset] []))
        refine Go.st (fun _ => XS.aloadN X181.here C.hx rfl (hb C.hby d3_103) rfl rfl) ?_
        show Go p e below s n0 _ _ _ (T181.setTop (mkF m 104 #[rv ad, iv xk.toInt32, iv 2, rv fr, rv tv, rv b159, iv 1, .unset] [(.ref ad)]))
        refine Go.st (fun _ => XS.iloadN X181.here C.hx rfl (hb C.hby d3_104) rfl) ?_
        show Go p e below s n0 _ _ _ (T181.setTop (mkF m 105 #[rv ad, iv xk.toInt32, iv 2, rv fr, rv tv, rv b159, iv 1, .unset] [(.int xk.toInt32), (.ref ad)]))
        refine Go.aaload C X181 (((O.ext E159).other W181 ne_ad_b159)).ar rfl (nn32 (by omega)) (ou_get hc hx) d3_105 ?_
        show Go p e below s n0 _ _ _ (T181.setTop (mkF m 106 #[rv ad, iv xk.toInt32, iv 2, rv fr, rv tv, rv b159, iv 1, .unset] [(.ref (rs xk))]))
        refine Go.st (fun _ => XS.astore X181.here C.hx rfl (hb C.hby d3_106) rfl rfl (l' := #[rv ad, iv xk.toInt32, iv 2, rv fr, rv tv, rv b159, iv 1, rv (rs xk)]) rfl) ?_
        show Go p e below s n0 _ _ _ (T181.setTop (mkF m 108 #[rv ad, iv xk.toInt32, iv 2, rv fr, rv tv, rv b159, iv 1, rv (rs xk)] []))
        refine Go.st (fun _ => XS.aload X181.here C.hx rfl (hb C.hby d3_108) rfl rfl) ?_
        show Go p e below s n0 _ _ _ (T181.setTop (mkF m 110 #[rv ad, iv xk.toInt32, iv 2, rv fr, rv tv, rv b159, iv 1, rv (rs xk)] [(.ref (rs xk))]))
        refine Go.st (fun _ => XS.ifnullNo X181.here C.hx rfl (hb C.hby d3_110) rfl) ?_
        show Go p e below s n0 _ _ _ (T181.setTop (mkF m 113 #[rv ad, iv xk.toInt32, iv 2, rv fr, rv tv, rv b159, iv 1, rv (rs xk)] []))
        refine Go.st (fun _ => XS.aload X181.here C.hx rfl (hb C.hby d3_113) rfl rfl) ?_
        show Go p e below s n0 _ _ _ (T181.setTop (mkF m 115 #[rv ad, iv xk.toInt32, iv 2, rv fr, rv tv, rv b159, iv 1, rv (rs xk)] [(.ref (rs xk))]))
        refine Go.alen C X181 AXX (z := (1 : Int32)) rfl d3_115 ?_
        show Go p e below s n0 _ _ _ (T181.setTop (mkF m 116 #[rv ad, iv xk.toInt32, iv 2, rv fr, rv tv, rv b159, iv 1, rv (rs xk)] [(.int 1)]))
        refine Go.st (fun _ => XS.iload X181.here C.hx rfl (hb C.hby d3_116) rfl) ?_
        show Go p e below s n0 _ _ _ (T181.setTop (mkF m 118 #[rv ad, iv xk.toInt32, iv 2, rv fr, rv tv, rv b159, iv 1, rv (rs xk)] [(.int 1), (.int 1)]))
        refine Go.icmp_eq C X181 (pc' := 123) d3_118 (by decide) (by decide) (fun _ => ?_) (fun hc => absurd hc (by decide))
        show Go p e below s n0 _ _ _ (T181.setTop (mkF m 123 #[rv ad, iv xk.toInt32, iv 2, rv fr, rv tv, rv b159, iv 1, rv (rs xk)] []))
        refine Go.st (fun _ => XS.iload X181.here C.hx rfl (hb C.hby d3_123) rfl) ?_
        show Go p e below s n0 _ _ _ (T181.setTop (mkF m 125 #[rv ad, iv xk.toInt32, iv 2, rv fr, rv tv, rv b159, iv 1, rv (rs xk)] [(.int 1)]))
        refine Go.st (fun _ => XS.iconst X181.here C.hx rfl (hb C.hby d3_125)) ?_
        show Go p e below s n0 _ _ _ (T181.setTop (mkF m 126 #[rv ad, iv xk.toInt32, iv 2, rv fr, rv tv, rv b159, iv 1, rv (rs xk)] [(.int 1), (.int 1)]))
        refine Go.icmp_lt C X181 (pc' := 140) d3_126 (by decide) (by decide) (fun hc => absurd hc (by decide)) (fun _ => ?_)
        show Go p e below s n0 _ _ _ (T181.setTop (mkF m 129 #[rv ad, iv xk.toInt32, iv 2, rv fr, rv tv, rv b159, iv 1, rv (rs xk)] []))
        refine Go.st (fun _ => XS.aload X181.here C.hx rfl (hb C.hby d3_129) rfl rfl) ?_
        show Go p e below s n0 _ _ _ (T181.setTop (mkF m 131 #[rv ad, iv xk.toInt32, iv 2, rv fr, rv tv, rv b159, iv 1, rv (rs xk)] [(.ref (rs xk))]))
        refine Go.st (fun _ => XS.iconst X181.here C.hx rfl (hb C.hby d3_131)) ?_
        show Go p e below s n0 _ _ _ (T181.setTop (mkF m 132 #[rv ad, iv xk.toInt32, iv 2, rv fr, rv tv, rv b159, iv 1, rv (rs xk)] [(.int 0), (.ref (rs xk))]))
        refine Go.iaload C X181 AXX (by decide) rfl d3_132 ?_
        show Go p e below s n0 _ _ _ (T181.setTop (mkF m 133 #[rv ad, iv xk.toInt32, iv 2, rv fr, rv tv, rv b159, iv 1, rv (rs xk)] [(.int t0)]))
        refine Go.st (fun _ => XS.aload X181.here C.hx rfl (hb C.hby d3_133) rfl rfl) ?_
        show Go p e below s n0 _ _ _ (T181.setTop (mkF m 135 #[rv ad, iv xk.toInt32, iv 2, rv fr, rv tv, rv b159, iv 1, rv (rs xk)] [(.ref b159), (.int t0)]))
        refine Go.st (fun _ => XS.iconst X181.here C.hx rfl (hb C.hby d3_135)) ?_
        show Go p e below s n0 _ _ _ (T181.setTop (mkF m 136 #[rv ad, iv xk.toInt32, iv 2, rv fr, rv tv, rv b159, iv 1, rv (rs xk)] [(.int 0), (.ref b159), (.int t0)]))
        refine Go.iaload C X181 A_181 (by decide) rfl d3_136 ?_
        show Go p e below s n0 _ _ _ (T181.setTop (mkF m 137 #[rv ad, iv xk.toInt32, iv 2, rv fr, rv tv, rv b159, iv 1, rv (rs xk)] [(.int t0), (.int t0)]))
        refine Go.icmp_ne C X181 (pc' := 195) d3_137 (by decide) (by decide) (fun hc => by first | exact absurd hc rfl | exact absurd rfl hc) (fun _ => ?_)
        show Go p e below s n0 _ _ _ (T181.setTop (mkF m 140 #[rv ad, iv xk.toInt32, iv 2, rv fr, rv tv, rv b159, iv 1, rv (rs xk)] []))
        refine Go.st (fun _ => XS.iload X181.here C.hx rfl (hb C.hby d3_140) rfl) ?_
        show Go p e below s n0 _ _ _ (T181.setTop (mkF m 142 #[rv ad, iv xk.toInt32, iv 2, rv fr, rv tv, rv b159, iv 1, rv (rs xk)] [(.int 1)]))
        refine Go.st (fun _ => XS.iconst X181.here C.hx rfl (hb C.hby d3_142)) ?_
        show Go p e below s n0 _ _ _ (T181.setTop (mkF m 143 #[rv ad, iv xk.toInt32, iv 2, rv fr, rv tv, rv b159, iv 1, rv (rs xk)] [(.int 2), (.int 1)]))
        refine Go.icmp_lt C X181 (pc' := 157) d3_143 (by decide) (by decide) (fun _ => ?_) (fun hc => absurd hc (by decide))
        show Go p e below s n0 _ _ _ (T181.setTop (mkF m 157 #[rv ad, iv xk.toInt32, iv 2, rv fr, rv tv, rv b159, iv 1, rv (rs xk)] []))
        refine Go.st (fun _ => XS.iload X181.here C.hx rfl (hb C.hby d3_157) rfl) ?_
        show Go p e below s n0 _ _ _ (T181.setTop (mkF m 159 #[rv ad, iv xk.toInt32, iv 2, rv fr, rv tv, rv b159, iv 1, rv (rs xk)] [(.int 1)]))
        refine Go.st (fun _ => XS.iconst X181.here C.hx rfl (hb C.hby d3_159)) ?_
        show Go p e below s n0 _ _ _ (T181.setTop (mkF m 160 #[rv ad, iv xk.toInt32, iv 2, rv fr, rv tv, rv b159, iv 1, rv (rs xk)] [(.int 3), (.int 1)]))
        refine Go.icmp_lt C X181 (pc' := 174) d3_160 (by decide) (by decide) (fun _ => ?_) (fun hc => absurd hc (by decide))
        show Go p e below s n0 _ _ _ (T181.setTop (mkF m 174 #[rv ad, iv xk.toInt32, iv 2, rv fr, rv tv, rv b159, iv 1, rv (rs xk)] []))
        refine Go.st (fun _ => XS.iload X181.here C.hx rfl (hb C.hby d3_174) rfl) ?_
        show Go p e below s n0 _ _ _ (T181.setTop (mkF m 176 #[rv ad, iv xk.toInt32, iv 2, rv fr, rv tv, rv b159, iv 1, rv (rs xk)] [(.int 1)]))
        refine Go.st (fun _ => XS.iconst X181.here C.hx rfl (hb C.hby d3_176)) ?_
        show Go p e below s n0 _ _ _ (T181.setTop (mkF m 177 #[rv ad, iv xk.toInt32, iv 2, rv fr, rv tv, rv b159, iv 1, rv (rs xk)] [(.int 4), (.int 1)]))
        refine Go.icmp_lt C X181 (pc' := 191) d3_177 (by decide) (by decide) (fun _ => ?_) (fun hc => absurd hc (by decide))
        show Go p e below s n0 _ _ _ (T181.setTop (mkF m 191 #[rv ad, iv xk.toInt32, iv 2, rv fr, rv tv, rv b159, iv 1, rv (rs xk)] []))
        refine Go.st (fun _ => XS.iconst X181.here C.hx rfl (hb C.hby d3_191)) ?_
        show Go p e below s n0 _ _ _ (T181.setTop (mkF m 192 #[rv ad, iv xk.toInt32, iv 2, rv fr, rv tv, rv b159, iv 1, rv (rs xk)] [(.int 1)]))
        refine Go.st (fun _ => XS.goto X181.here C.hx rfl (pc0 := 192) (pc' := 196) rfl (hb C.hby d3_192) (by decide) (by decide)) ?_
        show Go p e below s n0 _ _ _ (T181.setTop (mkF m 196 #[rv ad, iv xk.toInt32, iv 2, rv fr, rv tv, rv b159, iv 1, rv (rs xk)] [(.int 1)]))
        exact Go.retZ C X181 (by decide) d3_196 ⟨rfl, K181⟩ (by decide) (by decide)
      · show Go p e below s n0 _ _ _ (T181.setTop (mkF m 43 #[rv ad, iv xk.toInt32, iv 2, rv fr, rv tv, rv b159, iv 1, .unset] []))
        refine Go.st (fun _ => XS.aload X181.here C.hx rfl (hb C.hby d3_43) rfl rfl) ?_
        show Go p e below s n0 _ _ _ (T181.setTop (mkF m 45 #[rv ad, iv xk.toInt32, iv 2, rv fr, rv tv, rv b159, iv 1, .unset] [(.ref b159)]))
        refine Go.st (fun _ => XS.iload X181.here C.hx rfl (hb C.hby d3_45) rfl) ?_
        show Go p e below s n0 _ _ _ (T181.setTop (mkF m 47 #[rv ad, iv xk.toInt32, iv 2, rv fr, rv tv, rv b159, iv 1, .unset] [(.int 1), (.ref b159)]))
        refine Go.st (fun _ => XS.aload X181.here C.hx rfl (hb C.hby d3_47) rfl rfl) ?_
        show Go p e below s n0 _ _ _ (T181.setTop (mkF m 49 #[rv ad, iv xk.toInt32, iv 2, rv fr, rv tv, rv b159, iv 1, .unset] [(.ref tv), (.int 1), (.ref b159)]))
        refine Go.st (fun _ => XS.iconst X181.here C.hx rfl (hb C.hby d3_49)) ?_
        show Go p e below s n0 _ _ _ (T181.setTop (mkF m 50 #[rv ad, iv xk.toInt32, iv 2, rv fr, rv tv, rv b159, iv 1, .unset] [(.int 1), (.ref tv), (.int 1), (.ref b159)]))
        refine Go.iaload C X181 ((AT_.ext E159).other W181 ne_tv_b159) (by decide) rfl d3_50 ?_
        show Go p e below s n0 _ _ _ (T181.setTop (mkF m 51 #[rv ad, iv xk.toInt32, iv 2, rv fr, rv tv, rv b159, iv 1, .unset] [(.int t1), (.int 1), (.ref b159)]))
        refine Go.iastore C X181 A_181 (by decide) (Nat.le_of_ble_eq_true rfl) ge159 d3_51 (fun T193 h193 X193 W193 A193 => ?_)
        have A_193 : AR Z h193 b159 .int [(.int t0), (.int t1), (.int 0), (.int 0)] := A193
        have O_194 : AO Z h193 ad (ouV cc cc rs) := (((O.ext E159).other W181 ne_ad_b159).other W193 ne_ad_b159)
        have AF__195 : AR Z h193 fr .int [(.int g0.toInt32), (.int g1.toInt32), (.int g2.toInt32), (.int g3.toInt32)] := (((AF_.ext E159).other W181 ne_fr_b159).other W193 ne_fr_b159)
        have AT__196 : AR Z h193 tv .int [(.int t0), (.int t1), (.int t2), (.int t3)] := (((AT_.ext E159).other W181 ne_tv_b159).other W193 ne_tv_b159)
        have K193 : Keep h0 h193 [] := K181.wr W193 (Or.inr old_b159)
        show Go p e below s n0 _ _ _ (T193.setTop (mkF m 52 #[rv ad, iv xk.toInt32, iv 2, rv fr, rv tv, rv b159, iv 1, .unset] []))
        refine Go.st (fun _ => XS.iinc X193.here C.hx rfl (hb C.hby d3_52) rfl (l' := #[rv ad, iv xk.toInt32, iv 2, rv fr, rv tv, rv b159, iv 2, .unset]) rfl) ?_
        show Go p e below s n0 _ _ _ (T193.setTop (mkF m 55 #[rv ad, iv xk.toInt32, iv 2, rv fr, rv tv, rv b159, iv 2, .unset] []))
        refine Go.st (fun _ => XS.iloadN X193.here C.hx rfl (hb C.hby d3_55) rfl) ?_
        show Go p e below s n0 _ _ _ (T193.setTop (mkF m 56 #[rv ad, iv xk.toInt32, iv 2, rv fr, rv tv, rv b159, iv 2, .unset] [(.int 2)]))
        refine Go.st (fun _ => XS.iconst X193.here C.hx rfl (hb C.hby d3_56)) ?_
        show Go p e below s n0 _ _ _ (T193.setTop (mkF m 57 #[rv ad, iv xk.toInt32, iv 2, rv fr, rv tv, rv b159, iv 2, .unset] [(.int 2), (.int 2)]))
        refine Go.icmp_le C X193 (pc' := 79) d3_57 (by decide) (by decide) (fun _ => ?_) (fun hc => absurd hc (by decide))
        show Go p e below s n0 _ _ _ (T193.setTop (mkF m 79 #[rv ad, iv xk.toInt32, iv 2, rv fr, rv tv, rv b159, iv 2, .unset] []))
        refine Go.st (fun _ => XS.iloadN X193.here C.hx rfl (hb C.hby d3_79) rfl) ?_
        show Go p e below s n0 _ _ _ (T193.setTop (mkF m 80 #[rv ad, iv xk.toInt32, iv 2, rv fr, rv tv, rv b159, iv 2, .unset] [(.int 2)]))
        refine Go.st (fun _ => XS.iconst X193.here C.hx rfl (hb C.hby d3_80)) ?_
        show Go p e below s n0 _ _ _ (T193.setTop (mkF m 81 #[rv ad, iv xk.toInt32, iv 2, rv fr, rv tv, rv b159, iv 2, .unset] [(.int 3), (.int 2)]))
        refine Go.icmp_le C X193 (pc' := 103) d3_81 (by decide) (by decide) (fun _ => ?_) (fun hc => absurd hc (by decide))
        have p0 := eq_true ((eqI (by omega) (by omega)).mp hc16_161).symm
        have p1 := eq_true ((eqI (by omega) (by omega)).mp hc40_184).symm
        have RL : rowP (fsF g0 g1 g2 g3) (tsF t0 t1 t2 t3) 2 2 xk = [t0, t1] := by
          simp only [rowP, cnt, fsF0, tsF0, fsF1, tsF1, p0, p1, if_true, if_false]
          try rfl
        have AXX : AR Z h193 (rs xk) .int [(.int t0), (.int t1)] := by have u := (AX_182.other W193 ne__rs_xk__b159); rw [RL] at u; exact u
        show Go p e below s n0 _ _ _ (T193.setTop (mkF m 103 #[rv ad, iv xk.toInt32, iv 2, rv fr, rv tv, rv b159, iv 2, .unset] []))
        refine Go.st (fun _ => XS.aloadN X193.here C.hx rfl (hb C.hby d3_103) rfl rfl) ?_
        show Go p e below s n0 _ _ _ (T193.setTop (mkF m 104 #[rv ad, iv xk.toInt32, iv 2, rv fr, rv tv, rv b159, iv 2, .unset] [(.ref ad)]))
        refine Go.st (fun _ => XS.iloadN X193.here C.hx rfl (hb C.hby d3_104) rfl) ?_
        show Go p e below s n0 _ _ _ (T193.setTop (mkF m 105 #[rv ad, iv xk.toInt32, iv 2, rv fr, rv tv, rv b159, iv 2, .unset] [(.int xk.toInt32), (.ref ad)]))
        refine Go.aaload C X193 (O_194).ar rfl (nn32 (by omega)) (ou_get hc hx) d3_105 ?_
        show Go p e below s n0 _ _ _ (T193.setTop (mkF m 106 #[rv ad, iv xk.toInt32, iv 2, rv fr, rv tv, rv b159, iv 2, .unset] [(.ref (rs xk))]))
        refine Go.st (fun _ => XS.astore X193.here C.hx rfl (hb C.hby d3_106) rfl rfl (l' := #[rv ad, iv xk.toInt32, iv 2, rv fr, rv tv, rv b159, iv 2, rv (rs xk)]) rfl) ?_
        show Go p e below s n0 _ _ _ (T193.setTop (mkF m 108 #[rv ad, iv xk.toInt32, iv 2, rv fr, rv tv, rv b159, iv 2, rv (rs xk)] []))
        refine Go.st (fun _ => XS.aload X193.here C.hx rfl (hb C.hby d3_108) rfl rfl) ?_
        show Go p e below s n0 _ _ _ (T193.setTop (mkF m 110 #[rv ad, iv xk.toInt32, iv 2, rv fr, rv tv, rv b159, iv 2, rv (rs xk)] [(.ref (rs xk))]))
        refine Go.st (fun _ => XS.ifnullNo X193.here C.hx rfl (hb C.hby d3_110) rfl) ?_
        show Go p e below s n0 _ _ _ (T193.setTop (mkF m 113 #[rv ad, iv xk.toInt32, iv 2, rv fr, rv tv, rv b159, iv 2, rv (rs xk)] []))
        refine Go.st (fun _ => XS.aload X193.here C.hx rfl (hb C.hby d3_113) rfl rfl) ?_
        show Go p e below s n0 _ _ _ (T193.setTop (mkF m 115 #[rv ad, iv xk.toInt32, iv 2, rv fr, rv tv, rv b159, iv 2, rv (rs xk)] [(.ref (rs xk))]))
        refine Go.alen C X193 AXX (z := (2 : Int32)) rfl d3_115 ?_
        show Go p e below s n0 _ _ _ (T193.setTop (mkF m 116 #[rv ad, iv xk.toInt32, iv 2, rv fr, rv tv, rv b159, iv 2, rv (rs xk)] [(.int 2)]))
        refine Go.st (fun _ => XS.iload X193.here C.hx rfl (hb C.hby d3_116) rfl) ?_
        show Go p e below s n0 _ _ _ (T193.setTop (mkF m 118 #[rv ad, iv xk.toInt32, iv 2, rv fr, rv tv, rv b159, iv 2, rv (rs xk)] [(.int 2), (.int 2)]))
        refine Go.icmp_eq C X193 (pc' := 123) d3_118 (by decide) (by decide) (fun _ => ?_) (fun hc => absurd hc (by decide))
        show Go p e below s n0 _ _ _ (T193.setTop (mkF m 123 #[rv ad, iv xk.toInt32, iv 2, rv fr, rv tv, rv b159, iv 2, rv (rs xk)] []))
        refine Go.st (fun _ => XS.iload X193.here C.hx rfl (hb C.hby d3_123) rfl) ?_
        show Go p e below s n0 _ _ _ (T193.setTop (mkF m 125 #[rv ad, iv xk.toInt32, iv 2, rv fr, rv tv, rv b159, iv 2, rv (rs xk)] [(.int 2)]))
        refine Go.st (fun _ => XS.iconst X193.here C.hx rfl (hb C.hby d3_125)) ?_
        show Go p e below s n0 _ _ _ (T193.setTop (mkF m 126 #[rv ad, iv xk.toInt32, iv 2, rv fr, rv tv, rv b159, iv 2, rv (rs xk)] [(.int 1), (.int 2)]))
        refine Go.icmp_lt C X193 (pc' := 140) d3_126 (by decide) (by decide) (fun hc => absurd hc (by decide)) (fun _ => ?_)
        show Go p e below s n0 _ _ _ (T193.setTop (mkF m 129 #[rv ad, iv xk.toInt32, iv 2, rv fr, rv tv, rv b159, iv 2, rv (rs xk)] []))
        refine Go.st (fun _ => XS.aload X193.here C.hx rfl (hb C.hby d3_129) rfl rfl) ?_
        show Go p e below s n0 _ _ _ (T193.setTop (mkF m 131 #[rv ad, iv xk.toInt32, iv 2, rv fr, rv tv, rv b159, iv 2, rv (rs xk)] [(.ref (rs xk))]))
        refine Go.st (fun _ => XS.iconst X193.here C.hx rfl (hb C.hby d3_131)) ?_
        show Go p e below s n0 _ _ _ (T193.setTop (mkF m 132 #[rv ad, iv xk.toInt32, iv 2, rv fr, rv tv, rv b159, iv 2, rv (rs xk)] [(.int 0), (.ref (rs xk))]))
        refine Go.iaload C X193 AXX (by decide) rfl d3_132 ?_
        show Go p e below s n0 _ _ _ (T193.setTop (mkF m 133 #[rv ad, iv xk.toInt32, iv 2, rv fr, rv tv, rv b159, iv 2, rv (rs xk)] [(.int t0)]))
        refine Go.st (fun _ => XS.aload X193.here C.hx rfl (hb C.hby d3_133) rfl rfl) ?_
        show Go p e below s n0 _ _ _ (T193.setTop (mkF m 135 #[rv ad, iv xk.toInt32, iv 2, rv fr, rv tv, rv b159, iv 2, rv (rs xk)] [(.ref b159), (.int t0)]))
        refine Go.st (fun _ => XS.iconst X193.here C.hx rfl (hb C.hby d3_135)) ?_
        show Go p e below s n0 _ _ _ (T193.setTop (mkF m 136 #[rv ad, iv xk.toInt32, iv 2, rv fr, rv tv, rv b159, iv 2, rv (rs xk)] [(.int 0), (.ref b159), (.int t0)]))
        refine Go.iaload C X193 A_193 (by decide) rfl d3_136 ?_
        show Go p e below s n0 _ _ _ (T193.setTop (mkF m 137 #[rv ad, iv xk.toInt32, iv 2, rv fr, rv tv, rv b159, iv 2, rv (rs xk)] [(.int t0), (.int t0)]))
        refine Go.icmp_ne C X193 (pc' := 195) d3_137 (by decide) (by decide) (fun hc => by first | exact absurd hc rfl | exact absurd rfl hc) (fun _ => ?_)
        show Go p e below s n0 _ _ _ (T193.setTop (mkF m 140 #[rv ad, iv xk.toInt32, iv 2, rv fr, rv tv, rv b159, iv 2, rv (rs xk)] []))
        refine Go.st (fun _ => XS.iload X193.here C.hx rfl (hb C.hby d3_140) rfl) ?_
        show Go p e below s n0 _ _ _ (T193.setTop (mkF m 142 #[rv ad, iv xk.toInt32, iv 2, rv fr, rv tv, rv b159, iv 2, rv (rs xk)] [(.int 2)]))
        refine Go.st (fun _ => XS.iconst X193.here C.hx rfl (hb C.hby d3_142)) ?_
        show Go p e below s n0 _ _ _ (T193.setTop (mkF m 143 #[rv ad, iv xk.toInt32, iv 2, rv fr, rv tv, rv b159, iv 2, rv (rs xk)] [(.int 2), (.int 2)]))
        refine Go.icmp_lt C X193 (pc' := 157) d3_143 (by decide) (by decide) (fun hc => absurd hc (by decide)) (fun _ => ?_)
        show Go p e below s n0 _ _ _ (T193.setTop (mkF m 146 #[rv ad, iv xk.toInt32, iv 2, rv fr, rv tv, rv b159, iv 2, rv (rs xk)] []))
        refine Go.st (fun _ => XS.aload X193.here C.hx rfl (hb C.hby d3_146) rfl rfl) ?_
        show Go p e below s n0 _ _ _ (T193.setTop (mkF m 148 #[rv ad, iv xk.toInt32, iv 2, rv fr, rv tv, rv b159, iv 2, rv (rs xk)] [(.ref (rs xk))]))
        refine Go.st (fun _ => XS.iconst X193.here C.hx rfl (hb C.hby d3_148)) ?_
        show Go p e below s n0 _ _ _ (T193.setTop (mkF m 149 #[rv ad, iv xk.toInt32, iv 2, rv fr, rv tv, rv b159, iv 2, rv (rs xk)] [(.int 1), (.ref (rs xk))]))
        refine Go.iaload C X193 AXX (by decide) rfl d3_149 ?_
        show Go p e below s n0 _ _ _ (T193.setTop (mkF m 150 #[rv ad, iv xk.toInt32, iv 2, rv fr, rv tv, rv b159, iv 2, rv (rs xk)] [(.int t1)]))
        refine Go.st (fun _ => XS.aload X193.here C.hx rfl (hb C.hby d3_150) rfl rfl) ?_
        show Go p e below s n0 _ _ _ (T193.setTop (mkF m 152 #[rv ad, iv xk.toInt32, iv 2, rv fr, rv tv, rv b159, iv 2, rv (rs xk)] [(.ref b159), (.int t1)]))
        refine Go.st (fun _ => XS.iconst X193.here C.hx rfl (hb C.hby d3_152)) ?_
        show Go p e below s n0 _ _ _ (T193.setTop (mkF m 153 #[rv ad, iv xk.toInt32, iv 2, rv fr, rv tv, rv b159, iv 2, rv (rs xk)] [(.int 1), (.ref b159), (.int t1)]))
        refine Go.iaload C X193 A_193 (by decide) rfl d3_153 ?_
        show Go p e below s n0 _ _ _ (T193.setTop (mkF m 154 #[rv ad, iv xk.toInt32, iv 2, rv fr, rv tv, rv b159, iv 2, rv (rs xk)] [(.int t1), (.int t1)]))
        refine Go.icmp_ne C X193 (pc' := 195) d3_154 (by decide) (by decide) (fun hc => by first | exact absurd hc rfl | exact absurd rfl hc) (fun _ => ?_)
        show Go p e below s n0 _ _ _ (T193.setTop (mkF m 157 #[rv ad, iv xk.toInt32, iv 2, rv fr, rv tv, rv b159, iv 2, rv (rs xk)] []))
        refine Go.st (fun _ => XS.iload X193.here C.hx rfl (hb C.hby d3_157) rfl) ?_
        show Go p e below s n0 _ _ _ (T193.setTop (mkF m 159 #[rv ad, iv xk.toInt32, iv 2, rv fr, rv tv, rv b159, iv 2, rv (rs xk)] [(.int 2)]))
        refine Go.st (fun _ => XS.iconst X193.here C.hx rfl (hb C.hby d3_159)) ?_
        show Go p e below s n0 _ _ _ (T193.setTop (mkF m 160 #[rv ad, iv xk.toInt32, iv 2, rv fr, rv tv, rv b159, iv 2, rv (rs xk)] [(.int 3), (.int 2)]))
        refine Go.icmp_lt C X193 (pc' := 174) d3_160 (by decide) (by decide) (fun _ => ?_) (fun hc => absurd hc (by decide))
        show Go p e below s n0 _ _ _ (T193.setTop (mkF m 174 #[rv ad, iv xk.toInt32, iv 2, rv fr, rv tv, rv b159, iv 2, rv (rs xk)] []))
        refine Go.st (fun _ => XS.iload X193.here C.hx rfl (hb C.hby d3_174) rfl) ?_
        show Go p e below s n0 _ _ _ (T193.setTop (mkF m 176 #[rv ad, iv xk.toInt32, iv 2, rv fr, rv tv, rv b159, iv 2, rv (rs xk)] [(.int 2)]))
        refine Go.st (fun _ => XS.iconst X193.here C.hx rfl (hb C.hby d3_176)) ?_
        show Go p e below s n0 _ _ _ (T193.setTop (mkF m 177 #[rv ad, iv xk.toInt32, iv 2, rv fr, rv tv, rv b159, iv 2, rv (rs xk)] [(.int 4), (.int 2)]))
        refine Go.icmp_lt C X193 (pc' := 191) d3_177 (by decide) (by decide) (fun _ => ?_) (fun hc => absurd hc (by decide))
        show Go p e below s n0 _ _ _ (T193.setTop (mkF m 191 #[rv ad, iv xk.toInt32, iv 2, rv fr, rv tv, rv b159, iv 2, rv (rs xk)] []))
        refine Go.st (fun _ => XS.iconst X193.here C.hx rfl (hb C.hby d3_191)) ?_
        show Go p e below s n0 _ _ _ (T193.setTop (mkF m 192 #[rv ad, iv xk.toInt32, iv 2, rv fr, rv tv, rv b159, iv 2, rv (rs xk)] [(.int 1)]))
        refine Go.st (fun _ => XS.goto X193.here C.hx rfl (pc0 := 192) (pc' := 196) rfl (hb C.hby d3_192) (by decide) (by decide)) ?_
        show Go p e below s n0 _ _ _ (T193.setTop (mkF m 196 #[rv ad, iv xk.toInt32, iv 2, rv fr, rv tv, rv b159, iv 2, rv (rs xk)] [(.int 1)]))
        exact Go.retZ C X193 (by decide) d3_196 ⟨rfl, K193⟩ (by decide) (by decide)
  · subst hnz
    show Go p e below s n0 _ _ _ (T0.setTop (mkF m 0 #[rv ad, iv xk.toInt32, iv 3, rv fr, rv tv, .unset, .unset, .unset] []))
    refine Go.st (fun _ => XS.iconst X0.here C.hx rfl (hb C.hby d3_0)) ?_
    show Go p e below s n0 _ _ _ (T0.setTop (mkF m 1 #[rv ad, iv xk.toInt32, iv 3, rv fr, rv tv, .unset, .unset, .unset] [(.int 4)]))
    refine Go.newP C X0 (aty := .int) (cap := 4) (wd 4 rfl) d3_1 (by decide) (by decide) (by decide) (by decide) (by decide) (fun T206 h206 b206 g206 ge206 X206 E206 A206 => ?_)
    have ne_ad_b206 : ad ≠ b206 := Nat.ne_of_lt (Nat.lt_of_lt_of_le (O).lt (Nat.le_of_eq g206))
    have ne_fr_b206 : fr ≠ b206 := Nat.ne_of_lt (Nat.lt_of_lt_of_le (AF_).lt (Nat.le_of_eq g206))
    have ne_tv_b206 : tv ≠ b206 := Nat.ne_of_lt (Nat.lt_of_lt_of_le (AT_).lt (Nat.le_of_eq g206))
    have ne__rs_xk__b206 : (rs xk) ≠ b206 := Nat.ne_of_lt (Nat.lt_of_lt_of_le (AX).lt (Nat.le_of_eq g206))
    have K206 : Keep h0 h206 [] := (Keep.refl h0 []).ext E206
    have old_b206 : h0.size ≤ b206 := Nat.le_trans (Keep.refl h0 []).1 (Nat.le_of_eq g206)
    have A_b206 : AR Z h206 b206 .int [(.int 0), (.int 0), (.int 0), (.int 0)] := A206
    show Go p e below s n0 _ _ _ (T206.setTop (mkF m 3 #[rv ad, iv xk.toInt32, iv 3, rv fr, rv tv, .unset, .unset, .unset] [(.ref b206)]))
    refine Go.st (fun _ => XS.astore X206.here C.hx rfl (hb C.hby d3_3) rfl rfl (l' := #[rv ad, iv xk.toInt32, iv 3, rv fr, rv tv, rv b206, .unset, .unset]) rfl) ?_
    show Go p e below s n0 _ _ _ (T206.setTop (mkF m 5 #[rv ad, iv xk.toInt32, iv 3, rv fr, rv tv, rv b206, .unset, .unset] []))
    refine Go.st (fun _ => XS.iconst X206.here C.hx rfl (hb C.hby d3_5)) ?_
    show Go p e below s n0 _ _ _ (T206.setTop (mkF m 6 #[rv ad, iv xk.toInt32, iv 3, rv fr, rv tv, rv b206, .unset, .unset] [(.int 0)]))
    refine Go.st (fun _ => XS.istore X206.here C.hx rfl (hb C.hby d3_6) rfl (l' := #[rv ad, iv xk.toInt32, iv 3, rv fr, rv tv, rv b206, iv 0, .unset]) rfl) ?_
    show Go p e below s n0 _ _ _ (T206.setTop (mkF m 8 #[rv ad, iv xk.toInt32, iv 3, rv fr, rv tv, rv b206, iv 0, .unset] []))
    refine Go.st (fun _ => XS.iloadN X206.here C.hx rfl (hb C.hby d3_8) rfl) ?_
    show Go p e below s n0 _ _ _ (T206.setTop (mkF m 9 #[rv ad, iv xk.toInt32, iv 3, rv fr, rv tv, rv b206, iv 0, .unset] [(.int 3)]))
    refine Go.if_le C X206 (pc' := 31) d3_9 (by decide) (by decide) (fun hc => absurd hc (by decide)) (fun _ => ?_)
    show Go p e below s n0 _ _ _ (T206.setTop (mkF m 12 #[rv ad, iv xk.toInt32, iv 3, rv fr, rv tv, rv b206, iv 0, .unset] []))
    refine Go.st (fun _ => XS.aloadN X206.here C.hx rfl (hb C.hby d3_12) rfl rfl) ?_
    show Go p e below s n0 _ _ _ (T206.setTop (mkF m 13 #[rv ad, iv xk.toInt32, iv 3, rv fr, rv tv, rv b206, iv 0, .unset] [(.ref fr)]))
    refine Go.st (fun _ => XS.iconst X206.here C.hx rfl (hb C.hby d3_13)) ?_
    show Go p e below s n0 _ _ _ (T206.setTop (mkF m 14 #[rv ad, iv xk.toInt32, iv 3, rv fr, rv tv, rv b206, iv 0, .unset] [(.int 0), (.ref fr)]))
    refine Go.iaload C X206 (AF_.ext E206) (by decide) rfl d3_14 ?_
    show Go p e below s n0 _ _ _ (T206.setTop (mkF m 15 #[rv ad, iv xk.toInt32, iv 3, rv fr, rv tv, rv b206, iv 0, .unset] [(.int g0.toInt32)]))
    refine Go.st (fun _ => XS.iloadN X206.here C.hx rfl (hb C.hby d3_15) rfl) ?_
    show Go p e below s n0 _ _ _ (T206.setTop (mkF m 16 #[rv ad, iv xk.toInt32, iv 3, rv fr, rv tv, rv b206, iv 0, .unset] [(.int xk.toInt32), (.int g0.toInt32)]))
    refine Go.icmp_ne C X206 (pc' := 31) d3_16 (by decide) (by decide) (fun hc16_208 => ?_) (fun hc16_208 => ?_)
    · show Go p e below s n0 _ _ _ (T206.setTop (mkF m 31 #[rv ad, iv xk.toInt32, iv 3, rv fr, rv tv, rv b206, iv 0, .unset] []))
      refine Go.st (fun _ => XS.iloadN X206.here C.hx rfl (hb C.hby d3_31) rfl) ?_
      show Go p e below s n0 _ _ _ (T206.setTop (mkF m 32 #[rv ad, iv xk.toInt32, iv 3, rv fr, rv tv, rv b206, iv 0, .unset] [(.int 3)]))
      refine Go.st (fun _ => XS.iconst X206.here C.hx rfl (hb C.hby d3_32)) ?_
      show Go p e below s n0 _ _ _ (T206.setTop (mkF m 33 #[rv ad, iv xk.toInt32, iv 3, rv fr, rv tv, rv b206, iv 0, .unset] [(.int 1), (.int 3)]))
      refine Go.icmp_le C X206 (pc' := 55) d3_33 (by decide) (by decide) (fun hc => absurd hc (by decide)) (fun _ => ?_)
      show Go p e below s n0 _ _ _ (T206.setTop (mkF m 36 #[rv ad, iv xk.toInt32, iv 3, rv fr, rv tv, rv b206, iv 0, .unset] []))
      refine Go.st (fun _ => XS.aloadN X206.here C.hx rfl (hb C.hby d3_36) rfl rfl) ?_
      show Go p e below s n0 _ _ _ (T206.setTop (mkF m 37 #[rv ad, iv xk.toInt32, iv 3, rv fr, rv tv, rv b206, iv 0, .unset] [(.ref fr)]))
      refine Go.st (fun _ => XS.iconst X206.here C.hx rfl (hb C.hby d3_37)) ?_
      show Go p e below s n0 _ _ _ (T206.setTop (mkF m 38 #[rv ad, iv xk.toInt32, iv 3, rv fr, rv tv, rv b206, iv 0, .unset] [(.int 1), (.ref fr)]))
      refine Go.iaload C X206 (AF_.ext E206) (by decide) rfl d3_38 ?_
      show Go p e below s n0 _ _ _ (T206.setTop (mkF m 39 #[rv ad, iv xk.toInt32, iv 3, rv fr, rv tv, rv b206, iv 0, .unset] [(.int g1.toInt32)]))
      refine Go.st (fun _ => XS.iloadN X206.here C.hx rfl (hb C.hby d3_39) rfl) ?_
      show Go p e below s n0 _ _ _ (T206.setTop (mkF m 40 #[rv ad, iv xk.toInt32, iv 3, rv fr, rv tv, rv b206, iv 0, .unset] [(.int xk.toInt32), (.int g1.toInt32)]))
      refine Go.icmp_ne C X206 (pc' := 55) d3_40 (by decide) (by decide) (fun hc40_210 => ?_) (fun hc40_210 => ?_)
      · show Go p e below s n0 _ _ _ (T206.setTop (mkF m 55 #[rv ad, iv xk.toInt32, iv 3, rv fr, rv tv, rv b206, iv 0, .unset] []))
        refine Go.st (fun _ => XS.iloadN X206.here C.hx rfl (hb C.hby d3_55) rfl) ?_
        show Go p e below s n0 _ _ _ (T206.setTop (mkF m 56 #[rv ad, iv xk.toInt32, iv 3, rv fr, rv tv, rv b206, iv 0, .unset] [(.int 3)]))
        refine Go.st (fun _ => XS.iconst X206.here C.hx rfl (hb C.hby d3_56)) ?_
        show Go p e below s n0 _ _ _ (T206.setTop (mkF m 57 #[rv ad, iv xk.toInt32, iv 3, rv fr, rv tv, rv b206, iv 0, .unset] [(.int 2), (.int 3)]))
        refine Go.icmp_le C X206 (pc' := 79) d3_57 (by decide) (by decide) (fun hc => absurd hc (by decide)) (fun _ => ?_)
        show Go p e below s n0 _ _ _ (T206.setTop (mkF m 60 #[rv ad, iv xk.toInt32, iv 3, rv fr, rv tv, rv b206, iv 0, .unset] []))
        refine Go.st (fun _ => XS.aloadN X206.here C.hx rfl (hb C.hby d3_60) rfl rfl) ?_
        show Go p e below s n0 _ _ _ (T206.setTop (mkF m 61 #[rv ad, iv xk.toInt32, iv 3, rv fr, rv tv, rv b206, iv 0, .unset] [(.ref fr)]))
        refine Go.st (fun _ => XS.iconst X206.here C.hx rfl (hb C.hby d3_61)) ?_
        show Go p e below s n0 _ _ _ (T206.setTop (mkF m 62 #[rv ad, iv xk.toInt32, iv 3, rv fr, rv tv, rv b206, iv 0, .unset] [(.int 2), (.ref fr)]))
        refine Go.iaload C X206 (AF_.ext E206) (by decide) rfl d3_62 ?_
        show Go p e below s n0 _ _ _ (T206.setTop (mkF m 63 #[rv ad, iv xk.toInt32, iv 3, rv fr, rv tv, rv b206, iv 0, .unset] [(.int g2.toInt32)]))
        refine Go.st (fun _ => XS.iloadN X206.here C.hx rfl (hb C.hby d3_63) rfl) ?_
        show Go p e below s n0 _ _ _ (T206.setTop (mkF m 64 #[rv ad, iv xk.toInt32, iv 3, rv fr, rv tv, rv b206, iv 0, .unset] [(.int xk.toInt32), (.int g2.toInt32)]))
        refine Go.icmp_ne C X206 (pc' := 79) d3_64 (by decide) (by decide) (fun hc64_212 => ?_) (fun hc64_212 => ?_)
        · show Go p e below s n0 _ _ _ (T206.setTop (mkF m 79 #[rv ad, iv xk.toInt32, iv 3, rv fr, rv tv, rv b206, iv 0, .unset] []))
          refine Go.st (fun _ => XS.iloadN X206.here C.hx rfl (hb C.hby d3_79) rfl) ?_
          show Go p e below s n0 _ _ _ (T206.setTop (mkF m 80 #[rv ad, iv xk.toInt32, iv 3, rv fr, rv tv, rv b206, iv 0, .unset] [(.int 3)]))
          refine Go.st (fun _ => XS.iconst X206.here C.hx rfl (hb C.hby d3_80)) ?_
          show Go p e below s n0 _ _ _ (T206.setTop (mkF m 81 #[rv ad, iv xk.toInt32, iv 3, rv fr, rv tv, rv b206, iv 0, .unset] [(.int 3), (.int 3)]))
          refine Go.icmp_le C X206 (pc' := 103) d3_81 (by decide) (by decide) (fun _ => ?_) (fun hc => absurd hc (by decide))
          have p0 := eq_false (fun u : xk = g0 => hc16_208 ((eqI (by omega) (by omega)).mpr u.symm))
          have p1 := eq_false (fun u : xk = g1 => hc40_210 ((eqI (by omega) (by omega)).mpr u.symm))
          have p2 := eq_false (fun u : xk = g2 => hc64_212 ((eqI (by omega) (by omega)).mpr u.symm))
          have RL : rowP (fsF g0 g1 g2 g3) (tsF t0 t1 t2 t3) 3 3 xk = [] := by
            simp only [rowP, cnt, fsF0, tsF0, fsF1, tsF1, fsF2, tsF2, p0, p1, p2, if_true, if_false]
            try rfl
          have AXX : AR Z h206 (rs xk) .int [] := by have u := (AX.ext E206); rw [RL] at u; exact u
          show Go p e below s n0 _ _ _ (T206.setTop (mkF m 103 #[rv ad, iv xk.toInt32, iv 3, rv fr, rv tv, rv b206, iv 0, .unset] []))
          refine Go.st (fun _ => XS.aloadN X206.here C.hx rfl (hb C.hby d3_103) rfl rfl) ?_
          show Go p e below s n0 _ _ _ (T206.setTop (mkF m 104 #[rv ad, iv xk.toInt32, iv 3, rv fr, rv tv, rv b206, iv 0, .unset] [(.ref ad)]))
          refine Go.st (fun _ => XS.iloadN X206.here C.hx rfl (hb C.hby d3_104) rfl) ?_
          show Go p e below s n0 _ _ _ (T206.setTop (mkF m 105 #[rv ad, iv xk.toInt32, iv 3, rv fr, rv tv, rv b206, iv 0, .unset] [(.int xk.toInt32), (.ref ad)]))
          refine Go.aaload C X206 ((O.ext E206)).ar rfl (nn32 (by omega)) (ou_get hc hx) d3_105 ?_
          show Go p e below s n0 _ _ _ (T206.setTop (mkF m 106 #[rv ad, iv xk.toInt32, iv 3, rv fr, rv tv, rv b206, iv 0, .unset] [(.ref (rs xk))]))
          refine Go.st (fun _ => XS.astore X206.here C.hx rfl (hb C.hby d3_106) rfl rfl (l' := #[rv ad, iv xk.toInt32, iv 3, rv fr, rv tv, rv b206, iv 0, rv (rs xk)]) rfl) ?_
          show Go p e below s n0 _ _ _ (T206.setTop (mkF m 108 #[rv ad, iv xk.toInt32, iv 3, rv fr, rv tv, rv b206, iv 0, rv (rs xk)] []))
          refine Go.st (fun _ => XS.aload X206.here C.hx rfl (hb C.hby d3_108) rfl rfl) ?_
          show Go p e below s n0 _ _ _ (T206.setTop (mkF m 110 #[rv ad, iv xk.toInt32, iv 3, rv fr, rv tv, rv b206, iv 0, rv (rs xk)] [(.ref (rs xk))]))
          refine Go.st (fun _ => XS.ifnullNo X206.here C.hx rfl (hb C.hby d3_110) rfl) ?_
          show Go p e below s n0 _ _ _ (T206.setTop (mkF m 113 #[rv ad, iv xk.toInt32, iv 3, rv fr, rv tv, rv b206, iv 0, rv (rs xk)] []))
          refine Go.st (fun _ => XS.aload X206.here C.hx rfl (hb C.hby d3_113) rfl rfl) ?_
          show Go p e below s n0 _ _ _ (T206.setTop (mkF m 115 #[rv ad, iv xk.toInt32, iv 3, rv fr, rv tv, rv b206, iv 0, rv (rs xk)] [(.ref (rs xk))]))
          refine Go.alen C X206 AXX (z := (0 : Int32)) rfl d3_115 ?_
          show Go p e below s n0 _ _ _ (T206.setTop (mkF m 116 #[rv ad, iv xk.toInt32, iv 3, rv fr, rv tv, rv b206, iv 0, rv (rs xk)] [(.int 0)]))
          refine Go.st (fun _ => XS.iload X206.here C.hx rfl (hb C.hby d3_116) rfl) ?_
          show Go p e below s n0 _ _ _ (T206.setTop (mkF m 118 #[rv ad, iv xk.toInt32, iv 3, rv fr, rv tv, rv b206, iv 0, rv (rs xk)] [(.int 0), (.int 0)]))
          refine Go.icmp_eq C X206 (pc' := 123) d3_118 (by decide) (by decide) (fun _ => ?_) (fun hc => absurd hc (by decide))
          show Go p e below s n0 _ _ _ (T206.setTop (mkF m 123 #[rv ad, iv xk.toInt32, iv 3, rv fr, rv tv, rv b206, iv 0, rv (rs xk)] []))
          refine Go.st (fun _ => XS.iload X206.here C.hx rfl (hb C.hby d3_123) rfl) ?_
          show Go p e below s n0 _ _ _ (T206.setTop (mkF m 125 #[rv ad, iv xk.toInt32, iv 3, rv fr, rv tv, rv b206, iv 0, rv (rs xk)] [(.int 0)]))
          refine Go.st (fun _ => XS.iconst X206.here C.hx rfl (hb C.hby d3_125)) ?_
          show Go p e below s n0 _ _ _ (T206.setTop (mkF m 126 #[rv ad, iv xk.toInt32, iv 3, rv fr, rv tv, rv b206, iv 0, rv (rs xk)] [(.int 1), (.int 0)]))
          refine Go.icmp_lt C X206 (pc' := 140) d3_126 (by decide) (by decide) (fun _ => ?_) (fun hc => absurd hc (by decide))
          show Go p e below s n0 _ _ _ (T206.setTop (mkF m 140 #[rv ad, iv xk.toInt32, iv 3, rv fr, rv tv, rv b206, iv 0, rv (rs xk)] []))
          refine Go.st (fun _ => XS.iload X206.here C.hx rfl (hb C.hby d3_140) rfl) ?_
          show Go p e below s n0 _ _ _ (T206.setTop (mkF m 142 #[rv ad, iv xk.toInt32, iv 3, rv fr, rv tv, rv b206, iv 0, rv (rs xk)] [(.int 0)]))
          refine Go.st (fun _ => XS.iconst X206.here C.hx rfl (hb C.hby d3_142)) ?_
          show Go p e below s n0 _ _ _ (T206.setTop (mkF m 143 #[rv ad, iv xk.toInt32, iv 3, rv fr, rv tv, rv b206, iv 0, rv (rs xk)] [(.int 2), (.int 0)]))
          refine Go.icmp_lt C X206 (pc' := 157) d3_143 (by decide) (by decide) (fun _ => ?_) (fun hc => absurd hc (by decide))
          show Go p e below s n0 _ _ _ (T206.setTop (mkF m 157 #[rv ad, iv xk.toInt32, iv 3, rv fr, rv tv, rv b206, iv 0, rv (rs xk)] []))
          refine Go.st (fun _ => XS.iload X206.here C.hx rfl (hb C.hby d3_157) rfl) ?_
          show Go p e below s n0 _ _ _ (T206.setTop (mkF m 159 #[rv ad, iv xk.toInt32, iv 3, rv fr, rv tv, rv b206, iv 0, rv (rs xk)] [(.int 0)]))
          refine Go.st (fun _ => XS.iconst X206.here C.hx rfl (hb C.hby d3_159)) ?_
          show Go p e below s n0 _ _ _ (T206.setTop (mkF m 160 #[rv ad, iv xk.toInt32, iv 3, rv fr, rv tv, rv b206, iv 0, rv (rs xk)] [(.int 3), (.int 0)]))
          refine Go.icmp_lt C X206 (pc' := 174) d3_160 (by decide) (by decide) (fun _ => ?_) (fun hc => absurd hc (by decide))
          show Go p e below s n0 _ _ _ (T206.setTop (mkF m 174 #[rv ad, iv xk.toInt32, iv 3, rv fr, rv tv, rv b206, iv 0, rv (rs xk)] []))
          refine Go.st (fun _ => XS.iload X206.here C.hx rfl (hb C.hby d3_174) rfl) ?_
          show Go p e below s n0 _ _ _ (T206.setTop (mkF m 176 #[rv ad, iv xk.toInt32, iv 3, rv fr, rv tv, rv b206, iv 0, rv (rs xk)] [(.int 0)]))
          refine Go.st (fun _ => XS.iconst X206.here C.hx rfl (hb C.hby d3_176)) ?_
          show Go p e below s n0 _ _ _ (T206.setTop (mkF m 177 #[rv ad, iv xk.toInt32, iv 3, rv fr, rv tv, rv b206, iv 0, rv (rs xk)] [(.int 4), (.int 0)]))
          refine Go.icmp_lt C X206 (pc' := 191) d3_177 (by decide) (by decide) (fun _ => ?_) (fun hc => absurd hc (by decide))
          show Go p e below s n0 _ _ _ (T206.setTop (mkF m 191 #[rv ad, iv xk.toInt32, iv 3, rv fr, rv tv, rv b206, iv 0, rv (rs xk)] []))
          refine Go.st (fun _ => XS.iconst X206.here C.hx rfl (hb C.hby d3_191)) ?_
          show Go p e below s n0 _ _ _ (T206.setTop (mkF m 192 #[rv ad, iv xk.toInt32, iv 3, rv fr, rv tv, rv b206, iv 0, rv (rs xk)] [(.int 1)]))
          refine Go.st (fun _ => XS.goto X206.here C.hx rfl (pc0 := 192) (pc' := 196) rfl (hb C.hby d3_192) (by decide) (by decide)) ?_
          show Go p e below s n0 _ _ _ (T206.setTop (mkF m 196 #[rv ad, iv xk.toInt32, iv 3, rv fr, rv tv, rv b206, iv 0, rv (rs xk)] [(.int 1)]))
          exact Go.retZ C X206 (by decide) d3_196 ⟨rfl, K206⟩ (by decide) (by decide)
        · show Go p e below s n0 _ _ _ (T206.setTop (mkF m 67 #[rv ad, iv xk.toInt32, iv 3, rv fr, rv tv, rv b206, iv 0, .unset] []))
          refine Go.st (fun _ => XS.aload X206.here C.hx rfl (hb C.hby d3_67) rfl rfl) ?_
          show Go p e below s n0 _ _ _ (T206.setTop (mkF m 69 #[rv ad, iv xk.toInt32, iv 3, rv fr, rv tv, rv b206, iv 0, .unset] [(.ref b206)]))
          refine Go.st (fun _ => XS.iload X206.here C.hx rfl (hb C.hby d3_69) rfl) ?_
          show Go p e below s n0 _ _ _ (T206.setTop (mkF m 71 #[rv ad, iv xk.toInt32, iv 3, rv fr, rv tv, rv b206, iv 0, .unset] [(.int 0), (.ref b206)]))
          refine Go.st (fun _ => XS.aload X206.here C.hx rfl (hb C.hby d3_71) rfl rfl) ?_
          show Go p e below s n0 _ _ _ (T206.setTop (mkF m 73 #[rv ad, iv xk.toInt32, iv 3, rv fr, rv tv, rv b206, iv 0, .unset] [(.ref tv), (.int 0), (.ref b206)]))
          refine Go.st (fun _ => XS.iconst X206.here C.hx rfl (hb C.hby d3_73)) ?_
          show Go p e below s n0 _ _ _ (T206.setTop (mkF m 74 #[rv ad, iv xk.toInt32, iv 3, rv fr, rv tv, rv b206, iv 0, .unset] [(.int 2), (.ref tv), (.int 0), (.ref b206)]))
          refine Go.iaload C X206 (AT_.ext E206) (by decide) rfl d3_74 ?_
          show Go p e below s n0 _ _ _ (T206.setTop (mkF m 75 #[rv ad, iv xk.toInt32, iv 3, rv fr, rv tv, rv b206, iv 0, .unset] [(.int t2), (.int 0), (.ref b206)]))
          refine Go.iastore C X206 A_b206 (by decide) (Nat.le_of_ble_eq_true rfl) ge206 d3_75 (fun T219 h219 X219 W219 A219 => ?_)
          have A_219 : AR Z h219 b206 .int [(.int t2), (.int 0), (.int 0), (.int 0)] := A219
          have AX_220 : AR Z h219 (rs xk) .int ((rowP (fsF g0 g1 g2 g3) (tsF t0 t1 t2 t3) 3 3 xk).map Value.int) := ((AX.ext E206).other W219 ne__rs_xk__b206)
          have K219 : Keep h0 h219 [] := K206.wr W219 (Or.inr old_b206)
          show Go p e below s n0 _ _ _ (T219.setTop (mkF m 76 #[rv ad, iv xk.toInt32, iv 3, rv fr, rv tv, rv b206, iv 0, .unset] []))
          refine Go.st (fun _ => XS.iinc X219.here C.hx rfl (hb C.hby d3_76) rfl (l' := #[rv ad, iv xk.toInt32, iv 3, rv fr, rv tv, rv b206, iv 1, .unset]) rfl) ?_
          show Go p e below s n0 _ _ _ (T219.setTop (mkF m 79 #[rv ad, iv xk.toInt32, iv 3, rv fr, rv tv, rv b206, iv 1, .unset] []))
          refine Go.st (fun _ => XS.iloadN X219.here C.hx rfl (hb C.hby d3_79) rfl) ?_
          show Go p e below s n0 _ _ _ (T219.setTop (mkF m 80 #[rv ad, iv xk.toInt32, iv 3, rv fr, rv tv, rv b206, iv 1, .unset] [(.int 3)]))
          refine Go.st (fun _ => XS.iconst X219.here C.hx rfl (hb C.hby d3_80)) ?_
          show Go p e below s n0 _ _ _ (T219.setTop (mkF m 81 #[rv ad, iv xk.toInt32, iv 3, rv fr, rv tv, rv b206, iv 1, .unset] [(.int 3), (.int 3)]))
          refine Go.icmp_le C X219 (pc' := 103) d3_81 (by decide) (by decide) (fun _ => ?_) (fun hc => absurd hc (by decide))
          have p0 := eq_false (fun u : xk = g0 => hc16_208 ((eqI (by omega) (by omega)).mpr u.symm))
          have p1 := eq_false (fun u : xk = g1 => hc40_210 ((eqI (by omega) (by omega)).mpr u.symm))
          have p2 := eq_true ((eqI (by omega) (by omega)).mp hc64_212).symm
          have RL : rowP (fsF g0 g1 g2 g3) (tsF t0 t1 t2 t3) 3 3 xk = [t2] := by
            simp only [rowP, cnt, fsF0, tsF0, fsF1, tsF1, fsF2, tsF2, p0, p1, p2, if_true, if_false]
            try rfl
          have AXX : AR Z h219 (rs xk) .int [(.int t2)] := by have u := AX_220; rw [RL] at u; exact u
          show Go p e below s n0 _ _ _ (T219.setTop (mkF m 103 #[rv ad, iv xk.toInt32, iv 3, rv fr, rv tv, rv b206, iv 1, .unset] []))
          refine Go.st (fun _ => XS.aloadN X219.here C.hx rfl (hb C.hby d3_103) rfl rfl) ?_
          show Go p e below s n0 _ _ _ (T219.setTop (mkF m 104 #[rv ad, iv xk.toInt32, iv 3, rv fr, rv tv, rv b206, iv 1, .unset] [(.ref ad)]))
          refine Go.st (fun _ => XS.iloadN X219.here C.hx rfl (hb C.hby d3_104) rfl) ?_
          show Go p e below s n0 _ _ _ (T219.setTop (mkF m 105 #[rv ad, iv xk.toInt32, iv 3, rv fr, rv tv, rv b206, iv 1, .unset] [(.int xk.toInt32), (.ref ad)]))
          refine Go.aaload C X219 (((O.ext E206).other W219 ne_ad_b206)).ar rfl (nn32 (by omega)) (ou_get hc hx) d3_105 ?_
          show Go p e below s n0 _ _ _ (T219.setTop (mkF m 106 #[rv ad, iv xk.toInt32, iv 3, rv fr, rv tv, rv b206, iv 1, .unset] [(.ref (rs xk))]))
          refine Go.st (fun _ => XS.astore X219.here C.hx rfl (hb C.hby d3_106) rfl rfl (l' := #[rv ad, iv xk.toInt32, iv 3, rv fr, rv tv, rv b206, iv 1, rv (rs xk)]) rfl) ?_
          show Go p e below s n0 _ _ _ (T219.setTop (mkF m 108 #[rv ad, iv xk.toInt32, iv 3, rv fr, rv tv, rv b206, iv 1, rv (rs xk)] []))
          refine Go.st (fun _ => XS.aload X219.here C.hx rfl (hb C.hby d3_108) rfl rfl) ?_
          show Go p e below s n0 _ _ _ (T219.setTop (mkF m 110 #[rv ad, iv xk.toInt32, iv 3, rv fr, rv tv, rv b206, iv 1, rv (rs xk)] [(.ref (rs xk))]))
          refine Go.st (fun _ => XS.ifnullNo X219.here C.hx rfl (hb C.hby d3_110) rfl) ?_
          show Go p e below s n0 _ _ _ (T219.setTop (mkF m 113 #[rv ad, iv xk.toInt32, iv 3, rv fr, rv tv, rv b206, iv 1, rv (rs xk)] []))
          refine Go.st (fun _ => XS.aload X219.here C.hx rfl (hb C.hby d3_113) rfl rfl) ?_
          show Go p e below s n0 _ _ _ (T219.setTop (mkF m 115 #[rv ad, iv xk.toInt32, iv 3, rv fr, rv tv, rv b206, iv 1, rv (rs xk)] [(.ref (rs xk))]))
          refine Go.alen C X219 AXX (z := (1 : Int32)) rfl d3_115 ?_
          show Go p e below s n0 _ _ _ (T219.setTop (mkF m 116 #[rv ad, iv xk.toInt32, iv 3, rv fr, rv tv, rv b206, iv 1, rv (rs xk)] [(.int 1)]))
          refine Go.st (fun _ => XS.iload X219.here C.hx rfl (hb C.hby d3_116) rfl) ?_
          show Go p e below s n0 _ _ _ (T219.setTop (mkF m 118 #[rv ad, iv xk.toInt32, iv 3, rv fr, rv tv, rv b206, iv 1, rv (rs xk)] [(.int 1), (.int 1)]))
          refine Go.icmp_eq C X219 (pc' := 123) d3_118 (by decide) (by decide) (fun _ => ?_) (fun hc => absurd hc (by decide))
          show Go p e below s n0 _ _ _ (T219.setTop (mkF m 123 #[rv ad, iv xk.toInt32, iv 3, rv fr, rv tv, rv b206, iv 1, rv (rs xk)] []))
          refine Go.st (fun _ => XS.iload X219.here C.hx rfl (hb C.hby d3_123) rfl) ?_
          show Go p e below s n0 _ _ _ (T219.setTop (mkF m 125 #[rv ad, iv xk.toInt32, iv 3, rv fr, rv tv, rv b206, iv 1, rv (rs xk)] [(.int 1)]))
          refine Go.st (fun _ => XS.iconst X219.here C.hx rfl (hb C.hby d3_125)) ?_
          show Go p e below s n0 _ _ _ (T219.setTop (mkF m 126 #[rv ad, iv xk.toInt32, iv 3, rv fr, rv tv, rv b206, iv 1, rv (rs xk)] [(.int 1), (.int 1)]))
          refine Go.icmp_lt C X219 (pc' := 140) d3_126 (by decide) (by decide) (fun hc => absurd hc (by decide)) (fun _ => ?_)
          show Go p e below s n0 _ _ _ (T219.setTop (mkF m 129 #[rv ad, iv xk.toInt32, iv 3, rv fr, rv tv, rv b206, iv 1, rv (rs xk)] []))
          refine Go.st (fun _ => XS.aload X219.here C.hx rfl (hb C.hby d3_129) rfl rfl) ?_
          show Go p e below s n0 _ _ _ (T219.setTop (mkF m 131 #[rv ad, iv xk.toInt32, iv 3, rv fr, rv tv, rv b206, iv 1, rv (rs xk)] [(.ref (rs xk))]))
          refine Go.st (fun _ => XS.iconst X219.here C.hx rfl (hb C.hby d3_131)) ?_
          show Go p e below s n0 _ _ _ (T219.setTop (mkF m 132 #[rv ad, iv xk.toInt32, iv 3, rv fr, rv tv, rv b206, iv 1, rv (rs xk)] [(.int 0), (.ref (rs xk))]))
          refine Go.iaload C X219 AXX (by decide) rfl d3_132 ?_
          show Go p e below s n0 _ _ _ (T219.setTop (mkF m 133 #[rv ad, iv xk.toInt32, iv 3, rv fr, rv tv, rv b206, iv 1, rv (rs xk)] [(.int t2)]))
          refine Go.st (fun _ => XS.aload X219.here C.hx rfl (hb C.hby d3_133) rfl rfl) ?_
          show Go p e below s n0 _ _ _ (T219.setTop (mkF m 135 #[rv ad, iv xk.toInt32, iv 3, rv fr, rv tv, rv b206, iv 1, rv (rs xk)] [(.ref b206), (.int t2)]))
          refine Go.st (fun _ => XS.iconst X219.here C.hx rfl (hb C.hby d3_135)) ?_
          show Go p e below s n0 _ _ _ (T219.setTop (mkF m 136 #[rv ad, iv xk.toInt32, iv 3, rv fr, rv tv, rv b206, iv 1, rv (rs xk)] [(.int 0), (.ref b206), (.int t2)]))
          refine Go.iaload C X219 A_219 (by decide) rfl d3_136 ?_
          show Go p e below s n0 _ _ _ (T219.setTop (mkF m 137 #[rv ad, iv xk.toInt32, iv 3, rv fr, rv tv, rv b206, iv 1, rv (rs xk)] [(.int t2), (.int t2)]))
          refine Go.icmp_ne C X219 (pc' := 195) d3_137 (by decide) (by decide) (fun hc => by first | exact absurd hc rfl | exact absurd rfl hc) (fun _ => ?_)
          show Go p e below s n0 _ _ _ (T219.setTop (mkF m 140 #[rv ad, iv xk.toInt32, iv 3, rv fr, rv tv, rv b206, iv 1, rv (rs xk)] []))
          refine Go.st (fun _ => XS.iload X219.here C.hx rfl (hb C.hby d3_140) rfl) ?_
          show Go p e below s n0 _ _ _ (T219.setTop (mkF m 142 #[rv ad, iv xk.toInt32, iv 3, rv fr, rv tv, rv b206, iv 1, rv (rs xk)] [(.int 1)]))
          refine Go.st (fun _ => XS.iconst X219.here C.hx rfl (hb C.hby d3_142)) ?_
          show Go p e below s n0 _ _ _ (T219.setTop (mkF m 143 #[rv ad, iv xk.toInt32, iv 3, rv fr, rv tv, rv b206, iv 1, rv (rs xk)] [(.int 2), (.int 1)]))
          refine Go.icmp_lt C X219 (pc' := 157) d3_143 (by decide) (by decide) (fun _ => ?_) (fun hc => absurd hc (by decide))
          show Go p e below s n0 _ _ _ (T219.setTop (mkF m 157 #[rv ad, iv xk.toInt32, iv 3, rv fr, rv tv, rv b206, iv 1, rv (rs xk)] []))
          refine Go.st (fun _ => XS.iload X219.here C.hx rfl (hb C.hby d3_157) rfl) ?_
          show Go p e below s n0 _ _ _ (T219.setTop (mkF m 159 #[rv ad, iv xk.toInt32, iv 3, rv fr, rv tv, rv b206, iv 1, rv (rs xk)] [(.int 1)]))
          refine Go.st (fun _ => XS.iconst X219.here C.hx rfl (hb C.hby d3_159)) ?_
          show Go p e below s n0 _ _ _ (T219.setTop (mkF m 160 #[rv ad, iv xk.toInt32, iv 3, rv fr, rv tv, rv b206, iv 1, rv (rs xk)] [(.int 3), (.int 1)]))
          refine Go.icmp_lt C X219 (pc' := 174) d3_160 (by decide) (by decide) (fun _ => ?_) (fun hc => absurd hc (by decide))
          show Go p e below s n0 _ _ _ (T219.setTop (mkF m 174 #[rv ad, iv xk.toInt32, iv 3, rv fr, rv tv, rv b206, iv 1, rv (rs xk)] []))
          refine Go.st (fun _ => XS.iload X219.here C.hx rfl (hb C.hby d3_174) rfl) ?_
          show Go p e below s n0 _ _ _ (T219.setTop (mkF m 176 #[rv ad, iv xk.toInt32, iv 3, rv fr, rv tv, rv b206, iv 1, rv (rs xk)] [(.int 1)]))
          refine Go.st (fun _ => XS.iconst X219.here C.hx rfl (hb C.hby d3_176)) ?_
          show Go p e below s n0 _ _ _ (T219.setTop (mkF m 177 #[rv ad, iv xk.toInt32, iv 3, rv fr, rv tv, rv b206, iv 1, rv (rs xk)] [(.int 4), (.int 1)]))
          refine Go.icmp_lt C X219 (pc' := 191) d3_177 (by decide) (by decide) (fun _ => ?_) (fun hc => absurd hc (by decide))
          show Go p e below s n0 _ _ _ (T219.setTop (mkF m 191 #[rv ad, iv xk.toInt32, iv 3, rv fr, rv tv, rv b206, iv 1, rv (rs xk)] []))
          refine Go.st (fun _ => XS.iconst X219.here C.hx rfl (hb C.hby d3_191)) ?_
          show Go p e below s n0 _ _ _ (T219.setTop (mkF m 192 #[rv ad, iv xk.toInt32, iv 3, rv fr, rv tv, rv b206, iv 1, rv (rs xk)] [(.int 1)]))
          refine Go.st (fun _ => XS.goto X219.here C.hx rfl (pc0 := 192) (pc' := 196) rfl (hb C.hby d3_192) (by decide) (by decide)) ?_
          show Go p e below s n0 _ _ _ (T219.setTop (mkF m 196 #[rv ad, iv xk.toInt32, iv 3, rv fr, rv tv, rv b206, iv 1, rv (rs xk)] [(.int 1)]))
          exact Go.retZ C X219 (by decide) d3_196 ⟨rfl, K219⟩ (by decide) (by decide)
      · show Go p e below s n0 _ _ _ (T206.setTop (mkF m 43 #[rv ad, iv xk.toInt32, iv 3, rv fr, rv tv, rv b206, iv 0, .unset] []))
        refine Go.st (fun _ => XS.aload X206.here C.hx rfl (hb C.hby d3_43) rfl rfl) ?_
        show Go p e below s n0 _ _ _ (T206.setTop (mkF m 45 #[rv ad, iv xk.toInt32, iv 3, rv fr, rv tv, rv b206, iv 0, .unset] [(.ref b206)]))
        refine Go.st (fun _ => XS.iload X206.here C.hx rfl (hb C.hby d3_45) rfl) ?_
        show Go p e below s n0 _ _ _ (T206.setTop (mkF m 47 #[rv ad, iv xk.toInt32, iv 3, rv fr, rv tv, rv b206, iv 0, .unset] [(.int 0), (.ref b206)]))
        refine Go.st (fun _ => XS.aload X206.here C.hx rfl (hb C.hby d3_47) rfl rfl) ?_
        show Go p e below s n0 _ _ _ (T206.setTop (mkF m 49 #[rv ad, iv xk.toInt32, iv 3, rv fr, rv tv, rv b206, iv 0, .unset] [(.ref tv), (.int 0), (.ref b206)]))
        refine Go.st (fun _ => XS.iconst X206.here C.hx rfl (hb C.hby d3_49)) ?_
        show Go p e below s n0 _ _ _ (T206.setTop (mkF m 50 #[rv ad, iv xk.toInt32, iv 3, rv fr, rv tv, rv b206, iv 0, .unset] [(.int 1), (.ref tv), (.int 0), (.ref b206)]))
        refine Go.iaload C X206 (AT_.ext E206) (by decide) rfl d3_50 ?_
        show Go p e below s n0 _ _ _ (T206.setTop (mkF m 51 #[rv ad, iv xk.toInt32, iv 3, rv fr, rv tv, rv b206, iv 0, .unset] [(.int t1), (.int 0), (.ref b206)]))
        refine Go.iastore C X206 A_b206 (by decide) (Nat.le_of_ble_eq_true rfl) ge206 d3_51 (fun T228 h228 X228 W228 A228 => ?_)
        have A_228 : AR Z h228 b206 .int [(.int t1), (.int 0), (.int 0), (.int 0)] := A228
        have AX_229 : AR Z h228 (rs xk) .int ((rowP (fsF g0 g1 g2 g3) (tsF t0 t1 t2 t3) 3 3 xk).map Value.int) := ((AX.ext E206).other W228 ne__rs_xk__b206)
        have K228 : Keep h0 h228 [] := K206.wr W228 (Or.inr old_b206)
        show Go p e below s n0 _ _ _ (T228.setTop (mkF m 52 #[rv ad, iv xk.toInt32, iv 3, rv fr, rv tv, rv b206, iv 0, .unset] []))
        refine Go.st (fun _ => XS.iinc X228.here C.hx rfl (hb C.hby d3_52) rfl (l' := #[rv ad, iv xk.toInt32, iv 3, rv fr, rv tv, rv b206, iv 1, .unset]) rfl) ?_
        show Go p e below s n0 _ _ _ (T228.setTop (mkF m 55 #[rv ad, iv xk.toInt32, iv 3, rv fr, rv tv, rv b206, iv 1, .unset] []))
        refine Go.st (fun _ => XS.iloadN X228.here C.hx rfl (hb C.hby d3_55) rfl) ?_
        show Go p e below s n0 _ _ _ (T228.setTop (mkF m 56 #[rv ad, iv xk.toInt32, iv 3, rv fr, rv tv, rv b206, iv 1, .unset] [(.int 3)]))
        refine Go.st (fun _ => XS.iconst X228.here C.hx rfl (hb C.hby d3_56)) ?_
        show Go p e below s n0 _ _ _ (T228.setTop (mkF m 57 #[rv ad, iv xk.toInt32, iv 3, rv fr, rv tv, rv b206, iv 1, .unset] [(.int 2), (.int 3)]))
        refine Go.icmp_le C X228 (pc' := 79) d3_57 (by decide) (by decide) (fun hc => absurd hc (by decide)) (fun _ => ?_)
        show Go p e below s n0 _ _ _ (T228.setTop (mkF m 60 #[rv ad, iv xk.toInt32, iv 3, rv fr, rv tv, rv b206, iv 1, .unset] []))
        refine Go.st (fun _ => XS.aloadN X228.here C.hx rfl (hb C.hby d3_60) rfl rfl) ?_
        show Go p e below s n0 _ _ _ (T228.setTop (mkF m 61 #[rv ad, iv xk.toInt32, iv 3, rv fr, rv tv, rv b206, iv 1, .unset] [(.ref fr)]))
        refine Go.st (fun _ => XS.iconst X228.here C.hx rfl (hb C.hby d3_61)) ?_
        show Go p e below s n0 _ _ _ (T228.setTop (mkF m 62 #[rv ad, iv xk.toInt32, iv 3, rv fr, rv tv, rv b206, iv 1, .unset] [(.int 2), (.ref fr)]))
        refine Go.iaload C X228 ((AF_.ext E206).other W228 ne_fr_b206) (by decide) rfl d3_62 ?_
        show Go p e below s n0 _ _ _ (T228.setTop (mkF m 63 #[rv ad, iv xk.toInt32, iv 3, rv fr, rv tv, rv b206, iv 1, .unset] [(.int g2.toInt32)]))
        refine Go.st (fun _ => XS.iloadN X228.here C.hx rfl (hb C.hby d3_63) rfl) ?_
        show Go p e below s n0 _ _ _ (T228.setTop (mkF m 64 #[rv ad, iv xk.toInt32, iv 3, rv fr, rv tv, rv b206, iv 1, .unset] [(.int xk.toInt32), (.int g2.toInt32)]))
        refine Go.icmp_ne C X228 (pc' := 79) d3_64 (by decide) (by decide) (fun hc64_231 => ?_) (fun hc64_231 => ?_)
        · show Go p e below s n0 _ _ _ (T228.setTop (mkF m 79 #[rv ad, iv xk.toInt32, iv 3, rv fr, rv tv, rv b206, iv 1, .unset] []))
          refine Go.st (fun _ => XS.iloadN X228.here C.hx rfl (hb C.hby d3_79) rfl) ?_
          show Go p e below s n0 _ _ _ (T228.setTop (mkF m 80 #[rv ad, iv xk.toInt32, iv 3, rv fr, rv tv, rv b206, iv 1, .unset] [(.int 3)]))
          refine Go.st (fun _ => XS.iconst X228.here C.hx rfl (hb C.hby d3_80)) ?_
          show Go p e below s n0 _ _ _ (T228.setTop (mkF m 81 #[rv ad, iv xk.toInt32, iv 3, rv fr, rv tv, rv b206, iv 1, .unset] [(.int 3), (.int 3)]))
          refine Go.icmp_le C X228 (pc' := 103) d3_81 (by decide) (by decide) (fun _ => ?_) (fun hc => absurd hc (by decide))
          have p0 := eq_false (fun u : xk = g0 => hc16_208 ((eqI (by omega) (by omega)).mpr u.symm))
          have p1 := eq_true ((eqI (by omega) (by omega)).mp hc40_210).symm
          have p2 := eq_false (fun u : xk = g2 => hc64_231 ((eqI (by omega) (by omega)).mpr u.symm))
          have RL : rowP (fsF g0 g1 g2 g3) (tsF t0 t1 t2 t3) 3 3 xk = [t1] := by
            simp only [rowP, cnt, fsF0, tsF0, fsF1, tsF1, fsF2, tsF2, p0, p1, p2, if_true, if_false]
            try rfl
          have AXX : AR Z h228 (rs xk) .int [(.int t1)] := by have u := AX_229; rw [RL] at u; exact u
          show Go p e below s n0 _ _ _ (T228.setTop (mkF m 103 #[rv ad, iv xk.toInt32, iv 3, rv fr, rv tv, rv b206, iv 1, .unset] []))
          refine Go.st (fun _ => XS.aloadN X228.here C.hx rfl (hb C.hby d3_103) rfl rfl) ?_
          show Go p e below s n0 _ _ _ (T228.setTop (mkF m 104 #[rv ad, iv xk.toInt32, iv 3, rv fr, rv tv, rv b206, iv 1, .unset] [(.ref ad)]))
          refine Go.st (fun _ => XS.iloadN X228.here C.hx rfl (hb C.hby d3_104) rfl) ?_
          show Go p e below s n0 _ _ _ (T228.setTop (mkF m 105 #[rv ad, iv xk.toInt32, iv 3, rv fr, rv tv, rv b206, iv 1, .unset] [(.int xk.toInt32), (.ref ad)]))
          refine Go.aaload C X228 (((O.ext E206).other W228 ne_ad_b206)).ar rfl (nn32 (by omega)) (ou_get hc hx) d3_105 ?_
          show Go p e below s n0 _ _ _ (T228.setTop (mkF m 106 #[rv ad, iv xk.toInt32, iv 3, rv fr, rv tv, rv b206, iv 1, .unset] [(.ref (rs xk))]))
          refine Go.st (fun _ => XS.astore X228.here C.hx rfl (hb C.hby d3_106) rfl rfl (l' := #[rv ad, iv xk.toInt32, iv 3, rv fr, rv tv, rv b206, iv 1, rv (rs xk)]) rfl) ?_
          show Go p e below s n0 _ _ _ (T228.setTop (mkF m 108 #[rv ad, iv xk.toInt32, iv 3, rv fr, rv tv, rv b206, iv 1, rv (rs xk)] []))
          refine Go.st (fun _ => XS.aload X228.here C.hx rfl (hb C.hby d3_108) rfl rfl) ?_
          show Go p e below s n0 _ _ _ (T228.setTop (mkF m 110 #[rv ad, iv xk.toInt32, iv 3, rv fr, rv tv, rv b206, iv 1, rv (rs xk)] [(.ref (rs xk))]))
          refine Go.st (fun _ => XS.ifnullNo X228.here C.hx rfl (hb C.hby d3_110) rfl) ?_
          show Go p e below s n0 _ _ _ (T228.setTop (mkF m 113 #[rv ad, iv xk.toInt32, iv 3, rv fr, rv tv, rv b206, iv 1, rv (rs xk)] []))
          refine Go.st (fun _ => XS.aload X228.here C.hx rfl (hb C.hby d3_113) rfl rfl) ?_
          show Go p e below s n0 _ _ _ (T228.setTop (mkF m 115 #[rv ad, iv xk.toInt32, iv 3, rv fr, rv tv, rv b206, iv 1, rv (rs xk)] [(.ref (rs xk))]))
          refine Go.alen C X228 AXX (z := (1 : Int32)) rfl d3_115 ?_
          show Go p e below s n0 _ _ _ (T228.setTop (mkF m 116 #[rv ad, iv xk.toInt32, iv 3, rv fr, rv tv, rv b206, iv 1, rv (rs xk)] [(.int 1)]))
          refine Go.st (fun _ => XS.iload X228.here C.hx rfl (hb C.hby d3_116) rfl) ?_
          show Go p e below s n0 _ _ _ (T228.setTop (mkF m 118 #[rv ad, iv xk.toInt32, iv 3, rv fr, rv tv, rv b206, iv 1, rv (rs xk)] [(.int 1), (.int 1)]))
          refine Go.icmp_eq C X228 (pc' := 123) d3_118 (by decide) (by decide) (fun _ => ?_) (fun hc => absurd hc (by decide))
          show Go p e below s n0 _ _ _ (T228.setTop (mkF m 123 #[rv ad, iv xk.toInt32, iv 3, rv fr, rv tv, rv b206, iv 1, rv (rs xk)] []))
          refine Go.st (fun _ => XS.iload X228.here C.hx rfl (hb C.hby d3_123) rfl) ?_
          show Go p e below s n0 _ _ _ (T228.setTop (mkF m 125 #[rv ad, iv xk.toInt32, iv 3, rv fr, rv tv, rv b206, iv 1, rv (rs xk)] [(.int 1)]))
          refine Go.st (fun _ => XS.iconst X228.here C.hx rfl (hb C.hby d3_125)) ?_
          show Go p e below s n0 _ _ _ (T228.setTop (mkF m 126 #[rv ad, iv xk.toInt32, iv 3, rv fr, rv tv, rv b206, iv 1, rv (rs xk)] [(.int 1), (.int 1)]))
          refine Go.icmp_lt C X228 (pc' := 140) d3_126 (by decide) (by decide) (fun hc => absurd hc (by decide)) (fun _ => ?_)
          show Go p e below s n0 _ _ _ (T228.setTop (mkF m 129 #[rv ad, iv xk.toInt32, iv 3, rv fr, rv tv, rv b206, iv 1, rv (rs xk)] []))
          refine Go.st (fun _ => XS.aload X228.here C.hx rfl (hb C.hby d3_129) rfl rfl) ?_
          show Go p e below s n0 _ _ _ (T228.setTop (mkF m 131 #[rv ad, iv xk.toInt32, iv 3, rv fr, rv tv, rv b206, iv 1, rv (rs xk)] [(.ref (rs xk))]))
          refine Go.st (fun _ => XS.iconst X228.here C.hx rfl (hb C.hby d3_131)) ?_
          show Go p e below s n0 _ _ _ (T228.setTop (mkF m 132 #[rv ad, iv xk.toInt32, iv 3, rv fr, rv tv, rv b206, iv 1, rv (rs xk)] [(.int 0), (.ref (rs xk))]))
          refine Go.iaload C X228 AXX (by decide) rfl d3_132 ?_
          show Go p e below s n0 _ _ _ (T228.setTop (mkF m 133 #[rv ad, iv xk.toInt32, iv 3, rv fr, rv tv, rv b206, iv 1, rv (rs xk)] [(.int t1)]))
          refine Go.st (fun _ => XS.aload X228.here C.hx rfl (hb C.hby d3_133) rfl rfl) ?_
          show Go p e below s n0 _ _ _ (T228.setTop (mkF m 135 #[rv ad, iv xk.toInt32, iv 3, rv fr, rv tv, rv b206, iv 1, rv (rs xk)] [(.ref b206), (.int t1)]))
          refine Go.st (fun _ => XS.iconst X228.here C.hx rfl (hb C.hby d3_135)) ?_
          show Go p e below s n0 _ _ _ (T228.setTop (mkF m 136 #[rv ad, iv xk.toInt32, iv 3, rv fr, rv tv, rv b206, iv 1, rv (rs xk)] [(.int 0), (.ref b206), (.int t1)]))
          refine Go.iaload C X228 A_228 (by decide) rfl d3_136 ?_
          show Go p e below s n0 _ _ _ (T228.setTop (mkF m 137 #[rv ad, iv xk.toInt32, iv 3, rv fr, rv tv, rv b206, iv 1, rv (rs xk)] [(.int t1), (.int t1)]))
          refine Go.icmp_ne C X228 (pc' := 195) d3_137 (by decide) (by decide) (fun hc => by first | exact absurd hc rfl | exact absurd rfl hc) (fun _ => ?_)
          show Go p e below s n0 _ _ _ (T228.setTop (mkF m 140 #[rv ad, iv xk.toInt32, iv 3, rv fr, rv tv, rv b206, iv 1, rv (rs xk)] []))
          refine Go.st (fun _ => XS.iload X228.here C.hx rfl (hb C.hby d3_140) rfl) ?_
          show Go p e below s n0 _ _ _ (T228.setTop (mkF m 142 #[rv ad, iv xk.toInt32, iv 3, rv fr, rv tv, rv b206, iv 1, rv (rs xk)] [(.int 1)]))
          refine Go.st (fun _ => XS.iconst X228.here C.hx rfl (hb C.hby d3_142)) ?_
          show Go p e below s n0 _ _ _ (T228.setTop (mkF m 143 #[rv ad, iv xk.toInt32, iv 3, rv fr, rv tv, rv b206, iv 1, rv (rs xk)] [(.int 2), (.int 1)]))
          refine Go.icmp_lt C X228 (pc' := 157) d3_143 (by decide) (by decide) (fun _ => ?_) (fun hc => absurd hc (by decide))
          show Go p e below s n0 _ _ _ (T228.setTop (mkF m 157 #[rv ad, iv xk.toInt32, iv 3, rv fr, rv tv, rv b206, iv 1, rv (rs xk)] []))
          refine Go.st (fun _ => XS.iload X228.here C.hx rfl (hb C.hby d3_157) rfl) ?_
          show Go p e below s n0 _ _ _ (T228.setTop (mkF m 159 #[rv ad, iv xk.toInt32, iv 3, rv fr, rv tv, rv b206, iv 1, rv (rs xk)] [(.int 1)]))
          refine Go.st (fun _ => XS.iconst X228.here C.hx rfl (hb C.hby d3_159)) ?_
          show Go p e below s n0 _ _ _ (T228.setTop (mkF m 160 #[rv ad, iv xk.toInt32, iv 3, rv fr, rv tv, rv b206, iv 1, rv (rs xk)] [(.int 3), (.int 1)]))
          refine Go.icmp_lt C X228 (pc' := 174) d3_160 (by decide) (by decide) (fun _ => ?_) (fun hc => absurd hc (by decide))
          show Go p e below s n0 _ _ _ (T228.setTop (mkF m 174 #[rv ad, iv xk.toInt32, iv 3, rv fr, rv tv, rv b206, iv 1, rv (rs xk)] []))
          refine Go.st (fun _ => XS.iload X228.here C.hx rfl (hb C.hby d3_174) rfl) ?_
          show Go p e below s n0 _ _ _ (T228.setTop (mkF m 176 #[rv ad, iv xk.toInt32, iv 3, rv fr, rv tv, rv b206, iv 1, rv (rs xk)] [(.int 1)]))
          refine Go.st (fun _ => XS.iconst X228.here C.hx rfl (hb C.hby d3_176)) ?_
          show Go p e below s n0 _ _ _ (T228.setTop (mkF m 177 #[rv ad, iv xk.toInt32, iv 3, rv fr, rv tv, rv b206, iv 1, rv (rs xk)] [(.int 4), (.int 1)]))
          refine Go.icmp_lt C X228 (pc' := 191) d3_177 (by decide) (by decide) (fun _ => ?_) (fun hc => absurd hc (by decide))
          show Go p e below s n0 _ _ _ (T228.setTop (mkF m 191 #[rv ad, iv xk.toInt32, iv 3, rv fr, rv tv, rv b206, iv 1, rv (rs xk)] []))
          refine Go.st (fun _ => XS.iconst X228.here C.hx rfl (hb C.hby d3_191)) ?_
          show Go p e below s n0 _ _ _ (T228.setTop (mkF m 192 #[rv ad, iv xk.toInt32, iv 3, rv fr, rv tv, rv b206, iv 1, rv (rs xk)] [(.int 1)]))
          refine Go.st (fun _ => XS.goto X228.here C.hx rfl (pc0 := 192) (pc' := 196) rfl (hb C.hby d3_192) (by decide) (by decide)) ?_
          show Go p e below s n0 _ _ _ (T228.setTop (mkF m 196 #[rv ad, iv xk.toInt32, iv 3, rv fr, rv tv, rv b206, iv 1, rv (rs xk)] [(.int 1)]))
          exact Go.retZ C X228 (by decide) d3_196 ⟨rfl, K228⟩ (by decide) (by decide)
        · show Go p e below s n0 _ _ _ (T228.setTop (mkF m 67 #[rv ad, iv xk.toInt32, iv 3, rv fr, rv tv, rv b206, iv 1, .unset] []))
          refine Go.st (fun _ => XS.aload X228.here C.hx rfl (hb C.hby d3_67) rfl rfl) ?_
          show Go p e below s n0 _ _ _ (T228.setTop (mkF m 69 #[rv ad, iv xk.toInt32, iv 3, rv fr, rv tv, rv b206, iv 1, .unset] [(.ref b206)]))
          refine Go.st (fun _ => XS.iload X228.here C.hx rfl (hb C.hby d3_69) rfl) ?_
          show Go p e below s n0 _ _ _ (T228.setTop (mkF m 71 #[rv ad, iv xk.toInt32, iv 3, rv fr, rv tv, rv b206, iv 1, .unset] [(.int 1), (.ref b206)]))
          refine Go.st (fun _ => XS.aload X228.here C.hx rfl (hb C.hby d3_71) rfl rfl) ?_
          show Go p e below s n0 _ _ _ (T228.setTop (mkF m 73 #[rv ad, iv xk.toInt32, iv 3, rv fr, rv tv, rv b206, iv 1, .unset] [(.ref tv), (.int 1), (.ref b206)]))
          refine Go.st (fun _ => XS.iconst X228.here C.hx rfl (hb C.hby d3_73)) ?_
          show Go p e below s n0 _ _ _ (T228.setTop (mkF m 74 #[rv ad, iv xk.toInt32, iv 3, rv fr, rv tv, rv b206, iv 1, .unset] [(.int 2), (.ref tv), (.int 1), (.ref b206)]))
          refine Go.iaload C X228 ((AT_.ext E206).other W228 ne_tv_b206) (by decide) rfl d3_74 ?_
          show Go p e below s n0 _ _ _ (T228.setTop (mkF m 75 #[rv ad, iv xk.toInt32, iv 3, rv fr, rv tv, rv b206, iv 1, .unset] [(.int t2), (.int 1), (.ref b206)]))
          refine Go.iastore C X228 A_228 (by decide) (Nat.le_of_ble_eq_true rfl) ge206 d3_75 (fun T239 h239 X239 W239 A239 => ?_)
          have A_239 : AR Z h239 b206 .int [(.int t1), (.int t2), (.int 0), (.int 0)] := A239
          have O_240 : AO Z h239 ad (ouV cc cc rs) := (((O.ext E206).other W228 ne_ad_b206).other W239 ne_ad_b206)
          have AF__241 : AR Z h239 fr .int [(.int g0.toInt32), (.int g1.toInt32), (.int g2.toInt32), (.int g3.toInt32)] := (((AF_.ext E206).other W228 ne_fr_b206).other W239 ne_fr_b206)
          have AT__242 : AR Z h239 tv .int [(.int t0), (.int t1), (.int t2), (.int t3)] := (((AT_.ext E206).other W228 ne_tv_b206).other W239 ne_tv_b206)
          have K239 : Keep h0 h239 [] := K228.wr W239 (Or.inr old_b206)
          show Go p e below s n0 _ _ _ (T239.setTop (mkF m 76 #[rv ad, iv xk.toInt32, iv 3, rv fr, rv tv, rv b206, iv 1, .unset] []))
          refine Go.st (fun _ => XS.iinc X239.here C.hx rfl (hb C.hby d3_76) rfl (l' := #[rv ad, iv xk.toInt32, iv 3, rv fr, rv tv, rv b206, iv 2, .unset]) rfl) ?_
          show Go p e below s n0 _ _ _ (T239.setTop (mkF m 79 #[rv ad, iv xk.toInt32, iv 3, rv fr, rv tv, rv b206, iv 2, .unset] []))
          refine Go.st (fun _ => XS.iloadN X239.here C.hx rfl (hb C.hby d3_79) rfl) ?_
          show Go p e below s n0 _ _ _ (T239.setTop (mkF m 80 #[rv ad, iv xk.toInt32, iv 3, rv fr, rv tv, rv b206, iv 2, .unset] [(.int 3)]))
          refine Go.st (fun _ => XS.iconst X239.here C.hx rfl (hb C.hby d3_80)) ?_
          show Go p e below s n0 _ _ _ (T239.setTop (mkF m 81 #[rv ad, iv xk.toInt32, iv 3, rv fr, rv tv, rv b206, iv 2, .unset] [(.int 3), (.int 3)]))
          refine Go.icmp_le C X239 (pc' := 103) d3_81 (by decide) (by decide) (fun _ => ?_) (fun hc => absurd hc (by decide))
          have p0 := eq_false (fun u : xk = g0 => hc16_208 ((eqI (by omega) (by omega)).mpr u.symm))
          have p1 := eq_true ((eqI (by omega) (by omega)).mp hc40_210).symm
          have p2 := eq_true ((eqI (by omega) (by omega)).mp hc64_231).symm
          have RL : rowP (fsF g0 g1 g2 g3) (tsF t0 t1 t2 t3) 3 3 xk = [t1, t2] := by
            simp only [rowP, cnt, fsF0, tsF0, fsF1, tsF1, fsF2, tsF2, p0, p1, p2, if_true, if_false]
            try rfl
          have AXX : AR Z h239 (rs xk) .int [(.int t1), (.int t2)] := by have u := (AX_229.other W239 ne__rs_xk__b206); rw [RL] at u; exact u
          show Go p e below s n0 _ _ _ (T239.setTop (mkF m 103 #[rv ad, iv xk.toInt32, iv 3, rv fr, rv tv, rv b206, iv 2, .unset] []))
          refine Go.st (fun _ => XS.aloadN X239.here C.hx rfl (hb C.hby d3_103) rfl rfl) ?_
          show Go p e below s n0 _ _ _ (T239.setTop (mkF m 104 #[rv ad, iv xk.toInt32, iv 3, rv fr, rv tv, rv b206, iv 2, .unset] [(.ref ad)]))
          refine Go.st (fun _ => XS.iloadN X239.here C.hx rfl (hb C.hby d3_104) rfl) ?_
          show Go p e below s n0 _ _ _ (T239.setTop (mkF m 105 #[rv ad, iv xk.toInt32, iv 3, rv fr, rv tv, rv b206, iv 2, .unset] [(.int xk.toInt32), (.ref ad)]))
          refine Go.aaload C X239 (O_240).ar rfl (nn32 (by omega)) (ou_get hc hx) d3_105 ?_
          show Go p e below s n0 _ _ _ (T239.setTop (mkF m 106 #[rv ad, iv xk.toInt32, iv 3, rv fr, rv tv, rv b206, iv 2, .unset] [(.ref (rs xk))]))
          refine Go.st (fun _ => XS.astore X239.here C.hx rfl (hb C.hby d3_106) rfl rfl (l' := #[rv ad, iv xk.toInt32, iv 3, rv fr, rv tv, rv b206, iv 2, rv (rs xk)]) rfl) ?_
          show Go p e below s n0 _ _ _ (T239.setTop (mkF m 108 #[rv ad, iv xk.toInt32, iv 3, rv fr, rv tv, rv b206, iv 2, rv (rs xk)] []))
          refine Go.st (fun _ => XS.aload X239.here C.hx rfl (hb C.hby d3_108) rfl rfl) ?_
          show Go p e below s n0 _ _ _ (T239.setTop (mkF m 110 #[rv ad, iv xk.toInt32, iv 3, rv fr, rv tv, rv b206, iv 2, rv (rs xk)] [(.ref (rs xk))]))
          refine Go.st (fun _ => XS.ifnullNo X239.here C.hx rfl (hb C.hby d3_110) rfl) ?_
          show Go p e below s n0 _ _ _ (T239.setTop (mkF m 113 #[rv ad, iv xk.toInt32, iv 3, rv fr, rv tv, rv b206, iv 2, rv (rs xk)] []))
          refine Go.st (fun _ => XS.aload X239.here C.hx rfl (hb C.hby d3_113) rfl rfl) ?_
          show Go p e below s n0 _ _ _ (T239.setTop (mkF m 115 #[rv ad, iv xk.toInt32, iv 3, rv fr, rv tv, rv b206, iv 2, rv (rs xk)] [(.ref (rs xk))]))
          refine Go.alen C X239 AXX (z := (2 : Int32)) rfl d3_115 ?_
          show Go p e below s n0 _ _ _ (T239.setTop (mkF m 116 #[rv ad, iv xk.toInt32, iv 3, rv fr, rv tv, rv b206, iv 2, rv (rs xk)] [(.int 2)]))
          refine Go.st (fun _ => XS.iload X239.here C.hx rfl (hb C.hby d3_116) rfl) ?_
          show Go p e below s n0 _ _ _ (T239.setTop (mkF m 118 #[rv ad, iv xk.toInt32, iv 3, rv fr, rv tv, rv b206, iv 2, rv (rs xk)] [(.int 2), (.int 2)]))
          refine Go.icmp_eq C X239 (pc' := 123) d3_118 (by decide) (by decide) (fun _ => ?_) (fun hc => absurd hc (by decide))
          show Go p e below s n0 _ _ _ (T239.setTop (mkF m 123 #[rv ad, iv xk.toInt32, iv 3, rv fr, rv tv, rv b206, iv 2, rv (rs xk)] []))
          refine Go.st (fun _ => XS.iload X239.here C.hx rfl (hb C.hby d3_123) rfl) ?_
          show Go p e below s n0 _ _ _ (T239.setTop (mkF m 125 #[rv ad, iv xk.toInt32, iv 3, rv fr, rv tv, rv b206, iv 2, rv (rs xk)] [(.int 2)]))
          refine Go.st (fun _ => XS.iconst X239.here C.hx rfl (hb C.hby d3_125)) ?_
          show Go p e below s n0 _ _ _ (T239.setTop (mkF m 126 #[rv ad, iv xk.toInt32, iv 3, rv fr, rv tv, rv b206, iv 2, rv (rs xk)] [(.int 1), (.int 2)]))
          refine Go.icmp_lt C X239 (pc' := 140) d3_126 (by decide) (by decide) (fun hc => absurd hc (by decide)) (fun _ => ?_)
          show Go p e below s n0 _ _ _ (T239.setTop (mkF m 129 #[rv ad, iv xk.toInt32, iv 3, rv fr, rv tv, rv b206, iv 2, rv (rs xk)] []))
          refine Go.st (fun _ => XS.aload X239.here C.hx rfl (hb C.hby d3_129) rfl rfl) ?_
          show Go p e below s n0 _ _ _ (T239.setTop (mkF m 131 #[rv ad, iv xk.toInt32, iv 3, rv fr, rv tv, rv b206, iv 2, rv (rs xk)] [(.ref (rs xk))]))
          refine Go.st (fun _ => XS.iconst X239.here C.hx rfl (hb C.hby d3_131)) ?_
          show Go p e below s n0 _ _ _ (T239.setTop (mkF m 132 #[rv ad, iv xk.toInt32, iv 3, rv fr, rv tv, rv b206, iv 2, rv (rs xk)] [(.int 0), (.ref (rs xk))]))
          refine Go.iaload C X239 AXX (by decide) rfl d3_132 ?_
          show Go p e below s n0 _ _ _ (T239.setTop (mkF m 133 #[rv ad, iv xk.toInt32, iv 3, rv fr, rv tv, rv b206, iv 2, rv (rs xk)] [(.int t1)]))
          refine Go.st (fun _ => XS.aload X239.here C.hx rfl (hb C.hby d3_133) rfl rfl) ?_
          show Go p e below s n0 _ _ _ (T239.setTop (mkF m 135 #[rv ad, iv xk.toInt32, iv 3, rv fr, rv tv, rv b206, iv 2, rv (rs xk)] [(.ref b206), (.int t1)]))
          refine Go.st (fun _ => XS.iconst X239.here C.hx rfl (hb C.hby d3_135)) ?_
          show Go p e below s n0 _ _ _ (T239.setTop (mkF m 136 #[rv ad, iv xk.toInt32, iv 3, rv fr, rv tv, rv b206, iv 2, rv (rs xk)] [(.int 0), (.ref b206), (.int t1)]))
          refine Go.iaload C X239 A_239 (by decide) rfl d3_136 ?_
          show Go p e below s n0 _ _ _ (T239.setTop (mkF m 137 #[rv ad, iv xk.toInt32, iv 3, rv fr, rv tv, rv b206, iv 2, rv (rs xk)] [(.int t1), (.int t1)]))
          refine Go.icmp_ne C X239 (pc' := 195) d3_137 (by decide) (by decide) (fun hc => by first | exact absurd hc rfl | exact absurd rfl hc) (fun _ => ?_)
          show Go p e below s n0 _ _ _ (T239.setTop (mkF m 140 #[rv ad, iv xk.toInt32, iv 3, rv fr, rv tv, rv b206, iv 2, rv (rs xk)] []))
          refine Go.st (fun _ => XS.iload X239.here C.hx rfl (hb C.hby d3_140) rfl) ?_
          show Go p e below s n0 _ _ _ (T239.setTop (mkF m 142 #[rv ad, iv xk.toInt32, iv 3, rv fr, rv tv, rv b206, iv 2, rv (rs xk)] [(.int 2)]))
          refine Go.st (fun _ => XS.iconst X239.here C.hx rfl (hb C.hby d3_142)) ?_
          show Go p e below s n0 _ _ _ (T239.setTop (mkF m 143 #[rv ad, iv xk.toInt32, iv 3, rv fr, rv tv, rv b206, iv 2, rv (rs xk)] [(.int 2), (.int 2)]))
          refine Go.icmp_lt C X239 (pc' := 157) d3_143 (by decide) (by decide) (fun hc => absurd hc (by decide)) (fun _ => ?_)
          show Go p e below s n0 _ _ _ (T239.setTop (mkF m 146 #[rv ad, iv xk.toInt32, iv 3, rv fr, rv tv, rv b206, iv 2, rv (rs xk)] []))
          refine Go.st (fun _ => XS.aload X239.here C.hx rfl (hb C.hby d3_146) rfl rfl) ?_
          show Go p e below s n0 _ _ _ (T239.setTop (mkF m 148 #[rv ad, iv xk.toInt32, iv 3, rv fr, rv tv, rv b206, iv 2, rv (rs xk)] [(.ref (rs xk))]))
          refine Go.st (fun _ => XS.iconst X239.here C.hx rfl (hb C.hby d3_148)) ?_
          show Go p e below s n0 _ _ _ (T239.setTop (mkF m 149 #[rv ad, iv xk.toInt32, iv 3, rv fr, rv tv, rv b206, iv 2, rv (rs xk)] [(.int 1), (.ref (rs xk))]))
          refine Go.iaload C X239 AXX (by decide) rfl d3_149 ?_
          show Go p e below s n0 _ _ _ (T239.setTop (mkF m 150 #[rv ad, iv xk.toInt32, iv 3, rv fr, rv tv, rv b206, iv 2, rv (rs xk)] [(.int t2)]))
          refine Go.st (fun _ => XS.aload X239.here C.hx rfl (hb C.hby d3_150) rfl rfl) ?_
          show Go p e below s n0 _ _ _ (T239.setTop (mkF m 152 #[rv ad, iv xk.toInt32, iv 3, rv fr, rv tv, rv b206, iv 2, rv (rs xk)] [(.ref b206), (.int t2)]))
          refine Go.st (fun _ => XS.iconst X239.here C.hx rfl (hb C.hby d3_152)) ?_
          show Go p e below s n0 _ _ _ (T239.setTop (mkF m 153 #[rv ad, iv xk.toInt32, iv 3, rv fr, rv tv, rv b206, iv 2, rv (rs xk)] [(.int 1), (.ref b206), (.int t2)]))
          refine Go.iaload C X239 A_239 (by decide) rfl d3_153 ?_
          show Go p e below s n0 _ _ _ (T239.setTop (mkF m 154 #[rv ad, iv xk.toInt32, iv 3, rv fr, rv tv, rv b206, iv 2, rv (rs xk)] [(.int t2), (.int t2)]))
          refine Go.icmp_ne C X239 (pc' := 195) d3_154 (by decide) (by decide) (fun hc => by first | exact absurd hc rfl | exact absurd rfl hc) (fun _ => ?_)
          show Go p e below s n0 _ _ _ (T239.setTop (mkF m 157 #[rv ad, iv xk.toInt32, iv 3, rv fr, rv tv, rv b206, iv 2, rv (rs xk)] []))
          refine Go.st (fun _ => XS.iload X239.here C.hx rfl (hb C.hby d3_157) rfl) ?_
          show Go p e below s n0 _ _ _ (T239.setTop (mkF m 159 #[rv ad, iv xk.toInt32, iv 3, rv fr, rv tv, rv b206, iv 2, rv (rs xk)] [(.int 2)]))
          refine Go.st (fun _ => XS.iconst X239.here C.hx rfl (hb C.hby d3_159)) ?_
          show Go p e below s n0 _ _ _ (T239.setTop (mkF m 160 #[rv ad, iv xk.toInt32, iv 3, rv fr, rv tv, rv b206, iv 2, rv (rs xk)] [(.int 3), (.int 2)]))
          refine Go.icmp_lt C X239 (pc' := 174) d3_160 (by decide) (by decide) (fun _ => ?_) (fun hc => absurd hc (by decide))
          show Go p e below s n0 _ _ _ (T239.setTop (mkF m 174 #[rv ad, iv xk.toInt32, iv 3, rv fr, rv tv, rv b206, iv 2, rv (rs xk)] []))
          refine Go.st (fun _ => XS.iload X239.here C.hx rfl (hb C.hby d3_174) rfl) ?_
          show Go p e below s n0 _ _ _ (T239.setTop (mkF m 176 #[rv ad, iv xk.toInt32, iv 3, rv fr, rv tv, rv b206, iv 2, rv (rs xk)] [(.int 2)]))
          refine Go.st (fun _ => XS.iconst X239.here C.hx rfl (hb C.hby d3_176)) ?_
          show Go p e below s n0 _ _ _ (T239.setTop (mkF m 177 #[rv ad, iv xk.toInt32, iv 3, rv fr, rv tv, rv b206, iv 2, rv (rs xk)] [(.int 4), (.int 2)]))
          refine Go.icmp_lt C X239 (pc' := 191) d3_177 (by decide) (by decide) (fun _ => ?_) (fun hc => absurd hc (by decide))
          show Go p e below s n0 _ _ _ (T239.setTop (mkF m 191 #[rv ad, iv xk.toInt32, iv 3, rv fr, rv tv, rv b206, iv 2, rv (rs xk)] []))
          refine Go.st (fun _ => XS.iconst X239.here C.hx rfl (hb C.hby d3_191)) ?_
          show Go p e below s n0 _ _ _ (T239.setTop (mkF m 192 #[rv ad, iv xk.toInt32, iv 3, rv fr, rv tv, rv b206, iv 2, rv (rs xk)] [(.int 1)]))
          refine Go.st (fun _ => XS.goto X239.here C.hx rfl (pc0 := 192) (pc' := 196) rfl (hb C.hby d3_192) (by decide) (by decide)) ?_
          show Go p e below s n0 _ _ _ (T239.setTop (mkF m 196 #[rv ad, iv xk.toInt32, iv 3, rv fr, rv tv, rv b206, iv 2, rv (rs xk)] [(.int 1)]))
          exact Go.retZ C X239 (by decide) d3_196 ⟨rfl, K239⟩ (by decide) (by decide)
    · show Go p e below s n0 _ _ _ (T206.setTop (mkF m 19 #[rv ad, iv xk.toInt32, iv 3, rv fr, rv tv, rv b206, iv 0, .unset] []))
      refine Go.st (fun _ => XS.aload X206.here C.hx rfl (hb C.hby d3_19) rfl rfl) ?_
      show Go p e below s n0 _ _ _ (T206.setTop (mkF m 21 #[rv ad, iv xk.toInt32, iv 3, rv fr, rv tv, rv b206, iv 0, .unset] [(.ref b206)]))
      refine Go.st (fun _ => XS.iload X206.here C.hx rfl (hb C.hby d3_21) rfl) ?_
      show Go p e below s n0 _ _ _ (T206.setTop (mkF m 23 #[rv ad, iv xk.toInt32, iv 3, rv fr, rv tv, rv b206, iv 0, .unset] [(.int 0), (.ref b206)]))
      refine Go.st (fun _ => XS.aload X206.here C.hx rfl (hb C.hby d3_23) rfl rfl) ?_
      show Go p e below s n0 _ _ _ (T206.setTop (mkF m 25 #[rv ad, iv xk.toInt32, iv 3, rv fr, rv tv, rv b206, iv 0, .unset] [(.ref tv), (.int 0), (.ref b206)]))
      refine Go.st (fun _ => XS.iconst X206.here C.hx rfl (hb C.hby d3_25)) ?_
      show Go p e below s n0 _ _ _ (T206.setTop (mkF m 26 #[rv ad, iv xk.toInt32, iv 3, rv fr, rv tv, rv b206, iv 0, .unset] [(.int 0), (.ref tv), (.int 0), (.ref b206)]))
      refine Go.iaload C X206 (AT_.ext E206) (by decide) rfl d3_26 ?_
      show Go p e below s n0 _ _ _ (T206.setTop (mkF m 27 #[rv ad, iv xk.toInt32, iv 3, rv fr, rv tv, rv b206, iv 0, .unset] [(.int t0), (.int 0), (.ref b206)]))
      refine Go.iastore C X206 A_b206 (by decide) (Nat.le_of_ble_eq_true rfl) ge206 d3_27 (fun T251 h251 X251 W251 A251 => ?_)
      have A_251 : AR Z h251 b206 .int [(.int t0), (.int 0), (.int 0), (.int 0)] := A251
      have AX_252 : AR Z h251 (rs xk) .int ((rowP (fsF g0 g1 g2 g3) (tsF t0 t1 t2 t3) 3 3 xk).map Value.int) := ((AX.ext E206).other W251 ne__rs_xk__b206)
      have K251 : Keep h0 h251 [] := K206.wr W251 (Or.inr old_b206)
      show Go p e below s n0 _ _ _ (T251.setTop (mkF m 28 #[rv ad, iv xk.toInt32, iv 3, rv fr, rv tv, rv b206, iv 0, .unset] []))
      refine Go.st (fun _ => XS.iinc X251.here C.hx rfl (hb C.hby d3_28) rfl (l' := #[rv ad, iv xk.toInt32, iv 3, rv fr, rv tv, rv b206, iv 1, .unset]) rfl) ?_
      show Go p e below s n0 _ _ _ (T251.setTop (mkF m 31 #[rv ad, iv xk.toInt32, iv 3, rv fr, rv tv, rv b206, iv 1, .unset] []))
      refine Go.st (fun _ => XS.iloadN X251.here C.hx rfl (hb C.hby d3_31) rfl) ?_
      show Go p e below s n0 _ _ _ (T251.setTop (mkF m 32 #[rv ad, iv xk.toInt32, iv 3, rv fr, rv tv, rv b206, iv 1, .unset] [(.int 3)]))
      refine Go.st (fun _ => XS.iconst X251.here C.hx rfl (hb C.hby d3_32)) ?_
      show Go p e below s n0 _ _ _ (T251.setTop (mkF m 33 #[rv ad, iv xk.toInt32, iv 3, rv fr, rv tv, rv b206, iv 1, .unset] [(.int 1), (.int 3)]))
      refine Go.icmp_le C X251 (pc' := 55) d3_33 (by decide) (by decide) (fun hc => absurd hc (by decide)) (fun _ => ?_)
      show Go p e below s n0 _ _ _ (T251.setTop (mkF m 36 #[rv ad, iv xk.toInt32, iv 3, rv fr, rv tv, rv b206, iv 1, .unset] []))
      refine Go.st (fun _ => XS.aloadN X251.here C.hx rfl (hb C.hby d3_36) rfl rfl) ?_
      show Go p e below s n0 _ _ _ (T251.setTop (mkF m 37 #[rv ad, iv xk.toInt32, iv 3, rv fr, rv tv, rv b206, iv 1, .unset] [(.ref fr)]))
      refine Go.st (fun _ => XS.iconst X251.here C.hx rfl (hb C.hby d3_37)) ?_
      show Go p e below s n0 _ _ _ (T251.setTop (mkF m 38 #[rv ad, iv xk.toInt32, iv 3, rv fr, rv tv, rv b206, iv 1, .unset] [(.int 1), (.ref fr)]))
      refine Go.iaload C X251 ((AF_.ext E206).other W251 ne_fr_b206) (by decide) rfl d3_38 ?_
      show Go p e below s n0 _ _ _ (T251.setTop (mkF m 39 #[rv ad, iv xk.toInt32, iv 3, rv fr, rv tv, rv b206, iv 1, .unset] [(.int g1.toInt32)]))
      refine Go.st (fun _ => XS.iloadN X251.here C.hx rfl (hb C.hby d3_39) rfl) ?_
      show Go p e below s n0 _ _ _ (T251.setTop (mkF m 40 #[rv ad, iv xk.toInt32, iv 3, rv fr, rv tv, rv b206, iv 1, .unset] [(.int xk.toInt32), (.int g1.toInt32)]))
      refine Go.icmp_ne C X251 (pc' := 55) d3_40 (by decide) (by decide) (fun hc40_254 => ?_) (fun hc40_254 => ?_)
      · show Go p e below s n0 _ _ _ (T251.setTop (mkF m 55 #[rv ad, iv xk.toInt32, iv 3, rv fr, rv tv, rv b206, iv 1, .unset] []))
        refine Go.st (fun _ => XS.iloadN X251.here C.hx rfl (hb C.hby d3_55) rfl) ?_
        show Go p e below s n0 _ _ _ (T251.setTop (mkF m 56 #[rv ad, iv xk.toInt32, iv 3, rv fr, rv tv, rv b206, iv 1, .unset] [(.int 3)]))
        refine Go.st (fun _ => XS.iconst X251.here C.hx rfl (hb C.hby d3_56)) ?_
        show Go p e below s n0 _ _ _ (T251.setTop (mkF m 57 #[rv ad, iv xk.toInt32, iv 3, rv fr, rv tv, rv b206, iv 1, .unset] [(.int 2), (.int 3)]))
        refine Go.icmp_le C X251 (pc' := 79) d3_57 (by decide) (by decide) (fun hc => absurd hc (by decide)) (fun _ => ?_)
        show Go p e below s n0 _ _ _ (T251.setTop (mkF m 60 #[rv ad, iv xk.toInt32, iv 3, rv fr, rv tv, rv b206, iv 1, .unset] []))
        refine Go.st (fun _ => XS.aloadN X251.here C.hx rfl (hb C.hby d3_60) rfl rfl) ?_
        show Go p e below s n0 _ _ _ (T251.setTop (mkF m 61 #[rv ad, iv xk.toInt32, iv 3, rv fr, rv tv, rv b206, iv 1, .unset] [(.ref fr)]))
        refine Go.st (fun _ => XS.iconst X251.here C.hx rfl (hb C.hby d3_61)) ?_
        show Go p e below s n0 _ _ _ (T251.setTop (mkF m 62 #[rv ad, iv xk.toInt32, iv 3, rv fr, rv tv, rv b206, iv 1, .unset] [(.int 2), (.ref fr)]))
        refine Go.iaload C X251 ((AF_.ext E206).other W251 ne_fr_b206) (by decide) rfl d3_62 ?_
        show Go p e below s n0 _ _ _ (T251.setTop (mkF m 63 #[rv ad, iv xk.toInt32, iv 3, rv fr, rv tv, rv b206, iv 1, .unset] [(.int g2.toInt32)]))
        refine Go.st (fun _ => XS.iloadN X251.here C.hx rfl (hb C.hby d3_63) rfl) ?_
        show Go p e below s n0 _ _ _ (T251.setTop (mkF m 64 #[rv ad, iv xk.toInt32, iv 3, rv fr, rv tv, rv b206, iv 1, .unset] [(.int xk.toInt32), (.int g2.toInt32)]))
        refine Go.icmp_ne C X251 (pc' := 79) d3_64 (by decide) (by decide) (fun hc64_256 => ?_) (fun hc64_256 => ?_)
        · show Go p e below s n0 _ _ _ (T251.setTop (mkF m 79 #[rv ad, iv xk.toInt32, iv 3, rv fr, rv tv, rv b206, iv 1, .unset] []))
          refine Go.st (fun _ => XS.iloadN X251.here C.hx rfl (hb C.hby d3_79) rfl) ?_
          show Go p e below s n0 _ _ _ (T251.setTop (mkF m 80 #[rv ad, iv xk.toInt32, iv 3, rv fr, rv tv, rv b206, iv 1, .unset] [(.int 3)]))
          refine Go.st (fun _ => XS.iconst X251.here C.hx rfl (hb C.hby d3_80)) ?_
          show Go p e below s n0 _ _ _ (T251.setTop (mkF m 81 #[rv ad, iv xk.toInt32, iv 3, rv fr, rv tv, rv b206, iv 1, .unset] [(.int 3), (.int 3)]))
          refine Go.icmp_le C X251 (pc' := 103) d3_81 (by decide) (by decide) (fun _ => ?_) (fun hc => absurd hc (by decide))
          have p0 := eq_true ((eqI (by omega) (by omega)).mp hc16_208).symm
          have p1 := eq_false (fun u : xk = g1 => hc40_254 ((eqI (by omega) (by omega)).mpr u.symm))
          have p2 := eq_false (fun u : xk = g2 => hc64_256 ((eqI (by omega) (by omega)).mpr u.symm))
          have RL : rowP (fsF g0 g1 g2 g3) (tsF t0 t1 t2 t3) 3 3 xk = [t0] := by
            simp only [rowP, cnt, fsF0, tsF0, fsF1, tsF1, fsF2, tsF2, p0, p1, p2, if_true, if_false]
            try rfl
          have AXX : AR Z h251 (rs xk) .int [(.int t0)] := by have u := AX_252; rw [RL] at u; exact u
          show Go p e below s n0 _ _ _ (T251.setTop (mkF m 103 #[rv ad, iv xk.toInt32, iv 3, rv fr, rv tv, rv b206, iv 1, .unset] []))
          refine Go.st (fun _ => XS.aloadN X251.here C.hx rfl (hb C.hby d3_103) rfl rfl) ?_
          show Go p e below s n0 _ _ _ (T251.setTop (mkF m 104 #[rv ad, iv xk.toInt32, iv 3, rv fr, rv tv, rv b206, iv 1, .unset] [(.ref ad)]))
          refine Go.st (fun _ => XS.iloadN X251.here C.hx rfl (hb C.hby d3_104) rfl) ?_
          show Go p e below s n0 _ _ _ (T251.setTop (mkF m 105 #[rv ad, iv xk.toInt32, iv 3, rv fr, rv tv, rv b206, iv 1, .unset] [(.int xk.toInt32), (.ref ad)]))
          refine Go.aaload C X251 (((O.ext E206).other W251 ne_ad_b206)).ar rfl (nn32 (by omega)) (ou_get hc hx) d3_105 ?_
          show Go p e below s n0 _ _ _ (T251.setTop (mkF m 106 #[rv ad, iv xk.toInt32, iv 3, rv fr, rv tv, rv b206, iv 1, .unset] [(.ref (rs xk))]))
          refine Go.st (fun _ => XS.astore X251.here C.hx rfl (hb C.hby d3_106) rfl rfl (l' := #[rv ad, iv xk.toInt32, iv 3, rv fr, rv tv, rv b206, iv 1, rv (rs xk)]) rfl) ?_
          show Go p e below s n0 _ _ _ (T251.setTop (mkF m 108 #[rv ad, iv xk.toInt32, iv 3, rv fr, rv tv, rv b206, iv 1, rv (rs xk)] []))
          refine Go.st (fun _ => XS.aload X251.here C.hx rfl (hb C.hby d3_108) rfl rfl) ?_
          show Go p e below s n0 _ _ _ (T251.setTop (mkF m 110 #[rv ad, iv xk.toInt32, iv 3, rv fr, rv tv, rv b206, iv 1, rv (rs xk)] [(.ref (rs xk))]))
          refine Go.st (fun _ => XS.ifnullNo X251.here C.hx rfl (hb C.hby d3_110) rfl) ?_
          show Go p e below s n0 _ _ _ (T251.setTop (mkF m 113 #[rv ad, iv xk.toInt32, iv 3, rv fr, rv tv, rv b206, iv 1, rv (rs xk)] []))
          refine Go.st (fun _ => XS.aload X251.here C.hx rfl (hb C.hby d3_113) rfl rfl) ?_
          show Go p e below s n0 _ _ _ (T251.setTop (mkF m 115 #[rv ad, iv xk.toInt32, iv 3, rv fr, rv tv, rv b206, iv 1, rv (rs xk)] [(.ref (rs xk))]))
          refine Go.alen C X251 AXX (z := (1 : Int32)) rfl d3_115 ?_
          show Go p e below s n0 _ _ _ (T251.setTop (mkF m 116 #[rv ad, iv xk.toInt32, iv 3, rv fr, rv tv, rv b206, iv 1, rv (rs xk)] [(.int 1)]))
          refine Go.st (fun _ => XS.iload X251.here C.hx rfl (hb C.hby d3_116) rfl) ?_
          show Go p e below s n0 _ _ _ (T251.setTop (mkF m 118 #[rv ad, iv xk.toInt32, iv 3, rv fr, rv tv, rv b206, iv 1, rv (rs xk)] [(.int 1), (.int 1)]))
          refine Go.icmp_eq C X251 (pc' := 123) d3_118 (by decide) (by decide) (fun _ => ?_) (fun hc => absurd hc (by decide))
          show Go p e below s n0 _ _ _ (T251.setTop (mkF m 123 #[rv ad, iv xk.toInt32, iv 3, rv fr, rv tv, rv b206, iv 1, rv (rs xk)] []))
          refine Go.st (fun _ => XS.iload X251.here C.hx rfl (hb C.hby d3_123) rfl) ?_
          show Go p e below s n0 _ _ _ (T251.setTop (mkF m 125 #[rv ad, iv xk.toInt32, iv 3, rv fr, rv tv, rv b206, iv 1, rv (rs xk)] [(.int 1)]))
          refine Go.st (fun _ => XS.iconst X251.here C.hx rfl (hb C.hby d3_125)) ?_
          show Go p e below s n0 _ _ _ (T251.setTop (mkF m 126 #[rv ad, iv xk.toInt32, iv 3, rv fr, rv tv, rv b206, iv 1, rv (rs xk)] [(.int 1), (.int 1)]))
          refine Go.icmp_lt C X251 (pc' := 140) d3_126 (by decide) (by decide) (fun hc => absurd hc (by decide)) (fun _ => ?_)
          show Go p e below s n0 _ _ _ (T251.setTop (mkF m 129 #[rv ad, iv xk.toInt32, iv 3, rv fr, rv tv, rv b206, iv 1, rv (rs xk)] []))
          refine Go.st (fun _ => XS.aload X251.here C.hx rfl (hb C.hby d3_129) rfl rfl) ?_
          show Go p e below s n0 _ _ _ (T251.setTop (mkF m 131 #[rv ad, iv xk.toInt32, iv 3, rv fr, rv tv, rv b206, iv 1, rv (rs xk)] [(.ref (rs xk))]))
          refine Go.st (fun _ => XS.iconst X251.here C.hx rfl (hb C.hby d3_131)) ?_
          show Go p e below s n0 _ _ _ (T251.setTop (mkF m 132 #[rv ad, iv xk.toInt32, iv 3, rv fr, rv tv, rv b206, iv 1, rv (rs xk)] [(.int 0), (.ref (rs xk))]))
          refine Go.iaload C X251 AXX (by decide) rfl d3_132 ?_
          show Go p e below s n0 _ _ _ (T251.setTop (mkF m 133 #[rv ad, iv xk.toInt32, iv 3, rv fr, rv tv, rv b206, iv 1, rv (rs xk)] [(.int t0)]))
          refine Go.st (fun _ => XS.aload X251.here C.hx rfl (hb C.hby d3_133) rfl rfl) ?_
          show Go p e below s n0 _ _ _ (T251.setTop (mkF m 135 #[rv ad, iv xk.toInt32, iv 3, rv fr, rv tv, rv b206, iv 1, rv (rs xk)] [(.ref b206), (.int t0)]))
          refine Go.st (fun _ => XS.iconst X251.here C.hx rfl (hb C.hby d3_135)) ?_
          show Go p e below s n0 _ _ _ (T251.setTop (mkF m 136 #[rv ad, iv xk.toInt32, iv 3, rv fr, rv tv, rv b206, iv 1, rv (rs xk)] [(.int 0), (.ref b206), (.int t0)]))
          refine Go.iaload C X251 A_251 (by decide) rfl d3_136 ?_
          show Go p e below s n0 _ _ _ (T251.setTop (mkF m 137 #[rv ad, iv xk.toInt32, iv 3, rv fr, rv tv, rv b206, iv 1, rv (rs xk)] [(.int t0), (.int t0)]))
          refine Go.icmp_ne C X251 (pc' := 195) d3_137 (by decide) (by decide) (fun hc => by first | exact absurd hc rfl | exact absurd rfl hc) (fun _ => ?_)
          show Go p e below s n0 _ _ _ (T251.setTop (mkF m 140 #[rv ad, iv xk.toInt32, iv 3, rv fr, rv tv, rv b206, iv 1, rv (rs xk)] []))
          refine Go.st (fun _ => XS.iload X251.here C.hx rfl (hb C.hby d3_140) rfl) ?_
          show Go p e below s n0 _ _ _ (T251.setTop (mkF m 142 #[rv ad, iv xk.toInt32, iv 3, rv fr, rv tv, rv b206, iv 1, rv (rs xk)] [(.int 1)]))
          refine Go.st (fun _ => XS.iconst X251.here C.hx rfl (hb C.hby d3_142)) ?_
          show Go p e below s n0 _ _ _ (T251.setTop (mkF m 143 #[rv ad, iv xk.toInt32, iv 3, rv fr, rv tv, rv b206, iv 1, rv (rs xk)] [(.int 2), (.int 1)]))
          refine Go.icmp_lt C X251 (pc' := 157) d3_143 (by decide) (by decide) (fun _ => ?_) (fun hc => absurd hc (by decide))
          show Go p e below s n0 _ _ _ (T251.setTop (mkF m 157 #[rv ad, iv xk.toInt32, iv 3, rv fr, rv tv, rv b206, iv 1, rv (rs xk)] []))
          refine Go.st (fun _ => XS.iload X251.here C.hx rfl (hb C.hby d3_157) rfl) ?_
          show Go p e below s n0 _ _ _ (T251.setTop (mkF m 159 #[rv ad, iv xk.toInt32, iv 3, rv fr, rv tv, rv b206, iv 1, rv (rs xk)] [(.int 1)]))
          refine Go.st (fun _ => XS.iconst X251.here C.hx rfl (hb C.hby d3_159)) ?_
          show Go p e below s n0 _ _ _ (T251.setTop (mkF m 160 #[rv ad, iv xk.toInt32, iv 3, rv fr, rv tv, rv b206, iv 1, rv (rs xk)] [(.int 3), (.int 1)]))
          refine Go.icmp_lt C X251 (pc' := 174) d3_160 (by decide) (by decide) (fun _ => ?_) (fun hc => absurd hc (by decide))
          show Go p e below s n0 _ _ _ (T251.setTop (mkF m 174 #[rv ad, iv xk.toInt32, iv 3, rv fr, rv tv, rv b206, iv 1, rv (rs xk)] []))
          refine Go.st (fun _ => XS.iload X251.here C.hx rfl (hb C.hby d3_174) rfl) ?_
          show Go p e below s n0 _ _ _ (T251.setTop (mkF m 176 #[rv ad, iv xk.toInt32, iv 3, rv fr, rv tv, rv b206, iv 1, rv (rs xk)] [(.int 1)]))
          refine Go.st (fun _ => XS.iconst X251.here C.hx rfl (hb C.hby d3_176)) ?_
          show Go p e below s n0 _ _ _ (T251.setTop (mkF m 177 #[rv ad, iv xk.toInt32, iv 3, rv fr, rv tv, rv b206, iv 1, rv (rs xk)] [(.int 4), (.int 1)]))
          refine Go.icmp_lt C X251 (pc' := 191) d3_177 (by decide) (by decide) (fun _ => ?_) (fun hc => absurd hc (by decide))
          show Go p e below s n0 _ _ _ (T251.setTop (mkF m 191 #[rv ad, iv xk.toInt32, iv 3, rv fr, rv tv, rv b206, iv 1, rv (rs xk)] []))
          refine Go.st (fun _ => XS.iconst X251.here C.hx rfl (hb C.hby d3_191)) ?_
          show Go p e below s n0 _ _ _ (T251.setTop (mkF m 192 #[rv ad, iv xk.toInt32, iv 3, rv fr, rv tv, rv b206, iv 1, rv (rs xk)] [(.int 1)]))
          refine Go.st (fun _ => XS.goto X251.here C.hx rfl (pc0 := 192) (pc' := 196) rfl (hb C.hby d3_192) (by decide) (by decide)) ?_
          show Go p e below s n0 _ _ _ (T251.setTop (mkF m 196 #[rv ad, iv xk.toInt32, iv 3, rv fr, rv tv, rv b206, iv 1, rv (rs xk)] [(.int 1)]))
          exact Go.retZ C X251 (by decide) d3_196 ⟨rfl, K251⟩ (by decide) (by decide)
        · show Go p e below s n0 _ _ _ (T251.setTop (mkF m 67 #[rv ad, iv xk.toInt32, iv 3, rv fr, rv tv, rv b206, iv 1, .unset] []))
          refine Go.st (fun _ => XS.aload X251.here C.hx rfl (hb C.hby d3_67) rfl rfl) ?_
          show Go p e below s n0 _ _ _ (T251.setTop (mkF m 69 #[rv ad, iv xk.toInt32, iv 3, rv fr, rv tv, rv b206, iv 1, .unset] [(.ref b206)]))
          refine Go.st (fun _ => XS.iload X251.here C.hx rfl (hb C.hby d3_69) rfl) ?_
          show Go p e below s n0 _ _ _ (T251.setTop (mkF m 71 #[rv ad, iv xk.toInt32, iv 3, rv fr, rv tv, rv b206, iv 1, .unset] [(.int 1), (.ref b206)]))
          refine Go.st (fun _ => XS.aload X251.here C.hx rfl (hb C.hby d3_71) rfl rfl) ?_
          show Go p e below s n0 _ _ _ (T251.setTop (mkF m 73 #[rv ad, iv xk.toInt32, iv 3, rv fr, rv tv, rv b206, iv 1, .unset] [(.ref tv), (.int 1), (.ref b206)]))
          refine Go.st (fun _ => XS.iconst X251.here C.hx rfl (hb C.hby d3_73)) ?_
          show Go p e below s n0 _ _ _ (T251.setTop (mkF m 74 #[rv ad, iv xk.toInt32, iv 3, rv fr, rv tv, rv b206, iv 1, .unset] [(.int 2), (.ref tv), (.int 1), (.ref b206)]))
          refine Go.iaload C X251 ((AT_.ext E206).other W251 ne_tv_b206) (by decide) rfl d3_74 ?_
          show Go p e below s n0 _ _ _ (T251.setTop (mkF m 75 #[rv ad, iv xk.toInt32, iv 3, rv fr, rv tv, rv b206, iv 1, .unset] [(.int t2), (.int 1), (.ref b206)]))
          refine Go.iastore C X251 A_251 (by decide) (Nat.le_of_ble_eq_true rfl) ge206 d3_75 (fun T264 h264 X264 W264 A264 => ?_)
          have A_264 : AR Z h264 b206 .int [(.int t0), (.int t2), (.int 0), (.int 0)] := A264
          have O_265 : AO Z h264 ad (ouV cc cc rs) := (((O.ext E206).other W251 ne_ad_b206).other W264 ne_ad_b206)
          have AF__266 : AR Z h264 fr .int [(.int g0.toInt32), (.int g1.toInt32), (.int g2.toInt32), (.int g3.toInt32)] := (((AF_.ext E206).other W251 ne_fr_b206).other W264 ne_fr_b206)
          have AT__267 : AR Z h264 tv .int [(.int t0), (.int t1), (.int t2), (.int t3)] := (((AT_.ext E206).other W251 ne_tv_b206).other W264 ne_tv_b206)
          have K264 : Keep h0 h264 [] := K251.wr W264 (Or.inr old_b206)
          show Go p e below s n0 _ _ _ (T264.setTop (mkF m 76 #[rv ad, iv xk.toInt32, iv 3, rv fr, rv tv, rv b206, iv 1, .unset] []))
          refine Go.st (fun _ => XS.iinc X264.here C.hx rfl (hb C.hby d3_76) rfl (l' := #[rv ad, iv xk.toInt32, iv 3, rv fr, rv tv, rv b206, iv 2, .unset]) rfl) ?_
          show Go p e below s n0 _ _ _ (T264.setTop (mkF m 79 #[rv ad, iv xk.toInt32, iv 3, rv fr, rv tv, rv b206, iv 2, .unset] []))
          refine Go.st (fun _ => XS.iloadN X264.here C.hx rfl (hb C.hby d3_79) rfl) ?_
          show Go p e below s n0 _ _ _ (T264.setTop (mkF m 80 #[rv ad, iv xk.toInt32, iv 3, rv fr, rv tv, rv b206, iv 2, .unset] [(.int 3)]))
          refine Go.st (fun _ => XS.iconst X264.here C.hx rfl (hb C.hby d3_80)) ?_
          show Go p e below s n0 _ _ _ (T264.setTop (mkF m 81 #[rv ad, iv xk.toInt32, iv 3, rv fr, rv tv, rv b206, iv 2, .unset] [(.int 3), (.int 3)]))
          refine Go.icmp_le C X264 (pc' := 103) d3_81 (by decide) (by decide) (fun _ => ?_) (fun hc => absurd hc (by decide))
          have p0 := eq_true ((eqI (by omega) (by omega)).mp hc16_208).symm
          have p1 := eq_false (fun u : xk = g1 => hc40_254 ((eqI (by omega) (by omega)).mpr u.symm))
          have p2 := eq_true ((eqI (by omega) (by omega)).mp hc64_256).symm
          have RL : rowP (fsF g0 g1 g2 g3) (tsF t0 t1 t2 t3) 3 3 xk = [t0, t2] := by
            simp only [rowP, cnt, fsF0, tsF0, fsF1, tsF1, fsF2, tsF2, p0, p1, p2, if_true, if_false]
            try rfl
          have AXX : AR Z h264 (rs xk) .int [(.int t0), (.int t2)] := by have u := (AX_252.other W264 ne__rs_xk__b206); rw [RL] at u; exact u
          show Go p e below s n0 _ _ _ (T264.setTop (mkF m 103 #[rv ad, iv xk.toInt32, iv 3, rv fr, rv tv, rv b206, iv 2, .unset] []))
          refine Go.st (fun _ => XS.aloadN X264.here C.hx rfl (hb C.hby d3_103) rfl rfl) ?_
          show Go p e below s n0 _ _ _ (T264.setTop (mkF m 104 #[rv ad, iv xk.toInt32, iv 3, rv fr, rv tv, rv b206, iv 2, .unset] [(.ref ad)]))
          refine Go.st (fun _ => XS.iloadN X264.here C.hx rfl (hb C.hby d3_104) rfl) ?_
          show Go p e below s n0 _ _ _ (T264.setTop (mkF m 105 #[rv ad, iv xk.toInt32, iv 3, rv fr, rv tv, rv b206, iv 2, .unset] [(.int xk.toInt32), (.ref ad)]))
          refine Go.aaload C X264 (O_265).ar rfl (nn32 (by omega)) (ou_get hc hx) d3_105 ?_
          show Go p e below s n0 _ _ _ (T264.setTop (mkF m 106 #[rv ad, iv xk.toInt32, iv 3, rv fr, rv tv, rv b206, iv 2, .unset] [(.ref (rs xk))]))
          refine Go.st (fun _ => XS.astore X264.here C.hx rfl (hb C.hby d3_106) rfl rfl (l' := #[rv ad, iv xk.toInt32, iv 3, rv fr, rv tv, rv b206, iv 2, rv (rs xk)]) rfl) ?_
          show Go p e below s n0 _ _ _ (T264.setTop (mkF m 108 #[rv ad, iv xk.toInt32, iv 3, rv fr, rv tv, rv b206, iv 2, rv (rs xk)] []))
          refine Go.st (fun _ => XS.aload X264.here C.hx rfl (hb C.hby d3_108) rfl rfl) ?_
          show Go p e below s n0 _ _ _ (T264.setTop (mkF m 110 #[rv ad, iv xk.toInt32, iv 3, rv fr, rv tv, rv b206, iv 2, rv (rs xk)] [(.ref (rs xk))]))
          refine Go.st (fun _ => XS.ifnullNo X264.here C.hx rfl (hb C.hby d3_110) rfl) ?_
          show Go p e below s n0 _ _ _ (T264.setTop (mkF m 113 #[rv ad, iv xk.toInt32, iv 3, rv fr, rv tv, rv b206, iv 2, rv (rs xk)] []))
          refine Go.st (fun _ => XS.aload X264.here C.hx rfl (hb C.hby d3_113) rfl rfl) ?_
          show Go p e below s n0 _ _ _ (T264.setTop (mkF m 115 #[rv ad, iv xk.toInt32, iv 3, rv fr, rv tv, rv b206, iv 2, rv (rs xk)] [(.ref (rs xk))]))
          refine Go.alen C X264 AXX (z := (2 : Int32)) rfl d3_115 ?_
          show Go p e below s n0 _ _ _ (T264.setTop (mkF m 116 #[rv ad, iv xk.toInt32, iv 3, rv fr, rv tv, rv b206, iv 2, rv (rs xk)] [(.int 2)]))
          refine Go.st (fun _ => XS.iload X264.here C.hx rfl (hb C.hby d3_116) rfl) ?_
          show Go p e below s n0 _ _ _ (T264.setTop (mkF m 118 #[rv ad, iv xk.toInt32, iv 3, rv fr, rv tv, rv b206, iv 2, rv (rs xk)] [(.int 2), (.int 2)]))
          refine Go.icmp_eq C X264 (pc' := 123) d3_118 (by decide) (by decide) (fun _ => ?_) (fun hc => absurd hc (by decide))
          show Go p e below s n0 _ _ _ (T264.setTop (mkF m 123 #[rv ad, iv xk.toInt32, iv 3, rv fr, rv tv, rv b206, iv 2, rv (rs xk)] []))
          refine Go.st (fun _ => XS.iload X264.here C.hx rfl (hb C.hby d3_123) rfl) ?_
          show Go p e below s n0 _ _ _ (T264.setTop (mkF m 125 #[rv ad, iv xk.toInt32, iv 3, rv fr, rv tv, rv b206, iv 2, rv (rs xk)] [(.int 2)]))
          refine Go.st (fun _ => XS.iconst X264.here C.hx rfl (hb C.hby d3_125)) ?_
          show Go p e below s n0 _ _ _ (T264.setTop (mkF m 126 #[rv ad, iv xk.toInt32, iv 3, rv fr, rv tv, rv b206, iv 2, rv (rs xk)] [(.int 1), (.int 2)]))
          refine Go.icmp_lt C X264 (pc' := 140) d3_126 (by decide) (by decide) (fun hc => absurd hc (by decide)) (fun _ => ?_)
          show Go p e below s n0 _ _ _ (T264.setTop (mkF m 129 #[rv ad, iv xk.toInt32, iv 3, rv fr, rv tv, rv b206, iv 2, rv (rs xk)] []))
          refine Go.st (fun _ => XS.aload X264.here C.hx rfl (hb C.hby d3_129) rfl rfl) ?_
          show Go p e below s n0 _ _ _ (T264.setTop (mkF m 131 #[rv ad, iv xk.toInt32, iv 3, rv fr, rv tv, rv b206, iv 2, rv (rs xk)] [(.ref (rs xk))]))
          refine Go.st (fun _ => XS.iconst X264.here C.hx rfl (hb C.hby d3_131)) ?_
          show Go p e below s n0 _ _ _ (T264.setTop (mkF m 132 #[rv ad, iv xk.toInt32, iv 3, rv fr, rv tv, rv b206, iv 2, rv (rs xk)] [(.int 0), (.ref (rs xk))]))
          refine Go.iaload C X264 AXX (by decide) rfl d3_132 ?_
          show Go p e below s n0 _ _ _ (T264.setTop (mkF m 133 #[rv ad, iv xk.toInt32, iv 3, rv fr, rv tv, rv b206, iv 2, rv (rs xk)] [(.int t0)]))
          refine Go.st (fun _ => XS.aload X264.here C.hx rfl (hb C.hby d3_133) rfl rfl) ?_
          show Go p e below s n0 _ _ _ (T264.setTop (mkF m 135 #[rv ad, iv xk.toInt32, iv 3, rv fr, rv tv, rv b206, iv 2, rv (rs xk)] [(.ref b206), (.int t0)]))
          refine Go.st (fun _ => XS.iconst X264.here C.hx rfl (hb C.hby d3_135)) ?_
          show Go p e below s n0 _ _ _ (T264.setTop (mkF m 136 #[rv ad, iv xk.toInt32, iv 3, rv fr, rv tv, rv b206, iv 2, rv (rs xk)] [(.int 0), (.ref b206), (.int t0)]))
          refine Go.iaload C X264 A_264 (by decide) rfl d3_136 ?_
          show Go p e below s n0 _ _ _ (T264.setTop (mkF m 137 #[rv ad, iv xk.toInt32, iv 3, rv fr, rv tv, rv b206, iv 2, rv (rs xk)] [(.int t0), (.int t0)]))
          refine Go.icmp_ne C X264 (pc' := 195) d3_137 (by decide) (by decide) (fun hc => by first | exact absurd hc rfl | exact absurd rfl hc) (fun _ => ?_)
          show Go p e below s n0 _ _ _ (T264.setTop (mkF m 140 #[rv ad, iv xk.toInt32, iv 3, rv fr, rv tv, rv b206, iv 2, rv (rs xk)] []))
          refine Go.st (fun _ => XS.iload X264.here C.hx rfl (hb C.hby d3_140) rfl) ?_
          show Go p e below s n0 _ _ _ (T264.setTop (mkF m 142 #[rv ad, iv xk.toInt32, iv 3, rv fr, rv tv, rv b206, iv 2, rv (rs xk)] [(.int 2)]))
          refine Go.st (fun _ => XS.iconst X264.here C.hx rfl (hb C.hby d3_142)) ?_
          show Go p e below s n0 _ _ _ (T264.setTop (mkF m 143 #[rv ad, iv xk.toInt32, iv 3, rv fr, rv tv, rv b206, iv 2, rv (rs xk)] [(.int 2), (.int 2)]))
          refine Go.icmp_lt C X264 (pc' := 157) d3_143 (by decide) (by decide) (fun hc => absurd hc (by decide)) (fun _ => ?_)
          show Go p e below s n0 _ _ _ (T264.setTop (mkF m 146 #[rv ad, iv xk.toInt32, iv 3, rv fr, rv tv, rv b206, iv 2, rv (rs xk)] []))
          refine Go.st (fun _ => XS.aload X264.here C.hx rfl (hb C.hby d3_146) rfl rfl) ?_
          show Go p e below s n0 _ _ _ (T264.setTop (mkF m 148 #[rv ad, iv xk.toInt32, iv 3, rv fr, rv tv, rv b206, iv 2, rv (rs xk)] [(.ref (rs xk))]))
          refine Go.st (fun _ => XS.iconst X264.here C.hx rfl (hb C.hby d3_148)) ?_
          show Go p e below s n0 _ _ _ (T264.setTop (mkF m 149 #[rv ad, iv xk.toInt32, iv 3, rv fr, rv tv, rv b206, iv 2, rv (rs xk)] [(.int 1), (.ref (rs xk))]))
          refine Go.iaload C X264 AXX (by decide) rfl d3_149 ?_
          show Go p e below s n0 _ _ _ (T264.setTop (mkF m 150 #[rv ad, iv xk.toInt32, iv 3, rv fr, rv tv, rv b206, iv 2, rv (rs xk)] [(.int t2)]))
          refine Go.st (fun _ => XS.aload X264.here C.hx rfl (hb C.hby d3_150) rfl rfl) ?_
          show Go p e below s n0 _ _ _ (T264.setTop (mkF m 152 #[rv ad, iv xk.toInt32, iv 3, rv fr, rv tv, rv b206, iv 2, rv (rs xk)] [(.ref b206), (.int t2)]))
          refine Go.st (fun _ => XS.iconst X264.here C.hx rfl (hb C.hby d3_152)) ?_
          show Go p e below s n0 _ _ _ (T264.setTop (mkF m 153 #[rv ad, iv xk.toInt32, iv 3, rv fr, rv tv, rv b206, iv 2, rv (rs xk)] [(.int 1), (.ref b206), (.int t2)]))
          refine Go.iaload C X264 A_264 (by decide) rfl d3_153 ?_
          show Go p e below s n0 _ _ _ (T264.setTop (mkF m 154 #[rv ad, iv xk.toInt32, iv 3, rv fr, rv tv, rv b206, iv 2, rv (rs xk)] [(.int t2), (.int t2)]))
          refine Go.icmp_ne C X264 (pc' := 195) d3_154 (by decide) (by decide) (fun hc => by first | exact absurd hc rfl | exact absurd rfl hc) (fun _ => ?_)
          show Go p e below s n0 _ _ _ (T264.setTop (mkF m 157 #[rv ad, iv xk.toInt32, iv 3, rv fr, rv tv, rv b206, iv 2, rv (rs xk)] []))
          refine Go.st (fun _ => XS.iload X264.here C.hx rfl (hb C.hby d3_157) rfl) ?_
          show Go p e below s n0 _ _ _ (T264.setTop (mkF m 159 #[rv ad, iv xk.toInt32, iv 3, rv fr, rv tv, rv b206, iv 2, rv (rs xk)] [(.int 2)]))
          refine Go.st (fun _ => XS.iconst X264.here C.hx rfl (hb C.hby d3_159)) ?_
          show Go p e below s n0 _ _ _ (T264.setTop (mkF m 160 #[rv ad, iv xk.toInt32, iv 3, rv fr, rv tv, rv b206, iv 2, rv (rs xk)] [(.int 3), (.int 2)]))
          refine Go.icmp_lt C X264 (pc' := 174) d3_160 (by decide) (by decide) (fun _ => ?_) (fun hc => absurd hc (by decide))
          show Go p e below s n0 _ _ _ (T264.setTop (mkF m 174 #[rv ad, iv xk.toInt32, iv 3, rv fr, rv tv, rv b206, iv 2, rv (rs xk)] []))
          refine Go.st (fun _ => XS.iload X264.here C.hx rfl (hb C.hby d3_174) rfl) ?_
          show Go p e below s n0 _ _ _ (T264.setTop (mkF m 176 #[rv ad, iv xk.toInt32, iv 3, rv fr, rv tv, rv b206, iv 2, rv (rs xk)] [(.int 2)]))
          refine Go.st (fun _ => XS.iconst X264.here C.hx rfl (hb C.hby d3_176)) ?_
          show Go p e below s n0 _ _ _ (T264.setTop (mkF m 177 #[rv ad, iv xk.toInt32, iv 3, rv fr, rv tv, rv b206, iv 2, rv (rs xk)] [(.int 4), (.int 2)]))
          refine Go.icmp_lt C X264 (pc' := 191) d3_177 (by decide) (by decide) (fun _ => ?_) (fun hc => absurd hc (by decide))
          show Go p e below s n0 _ _ _ (T264.setTop (mkF m 191 #[rv ad, iv xk.toInt32, iv 3, rv fr, rv tv, rv b206, iv 2, rv (rs xk)] []))
          refine Go.st (fun _ => XS.iconst X264.here C.hx rfl (hb C.hby d3_191)) ?_
          show Go p e below s n0 _ _ _ (T264.setTop (mkF m 192 #[rv ad, iv xk.toInt32, iv 3, rv fr, rv tv, rv b206, iv 2, rv (rs xk)] [(.int 1)]))
          refine Go.st (fun _ => XS.goto X264.here C.hx rfl (pc0 := 192) (pc' := 196) rfl (hb C.hby d3_192) (by decide) (by decide)) ?_
          show Go p e below s n0 _ _ _ (T264.setTop (mkF m 196 #[rv ad, iv xk.toInt32, iv 3, rv fr, rv tv, rv b206, iv 2, rv (rs xk)] [(.int 1)]))
          exact Go.retZ C X264 (by decide) d3_196 ⟨rfl, K264⟩ (by decide) (by decide)
      · show Go p e below s n0 _ _ _ (T251.setTop (mkF m 43 #[rv ad, iv xk.toInt32, iv 3, rv fr, rv tv, rv b206, iv 1, .unset] []))
        refine Go.st (fun _ => XS.aload X251.here C.hx rfl (hb C.hby d3_43) rfl rfl) ?_
        show Go p e below s n0 _ _ _ (T251.setTop (mkF m 45 #[rv ad, iv xk.toInt32, iv 3, rv fr, rv tv, rv b206, iv 1, .unset] [(.ref b206)]))
        refine Go.st (fun _ => XS.iload X251.here C.hx rfl (hb C.hby d3_45) rfl) ?_
        show Go p e below s n0 _ _ _ (T251.setTop (mkF m 47 #[rv ad, iv xk.toInt32, iv 3, rv fr, rv tv, rv b206, iv 1, .unset] [(.int 1), (.ref b206)]))
        refine Go.st (fun _ => XS.aload X251.here C.hx rfl (hb C.hby d3_47) rfl rfl) ?_
        show Go p e below s n0 _ _ _ (T251.setTop (mkF m 49 #[rv ad, iv xk.toInt32, iv 3, rv fr, rv tv, rv b206, iv 1, .unset] [(.ref tv), (.int 1), (.ref b206)]))
        refine Go.st (fun _ => XS.iconst X251.here C.hx rfl (hb C.hby d3_49)) ?_
        show Go p e below s n0 _ _ _ (T251.setTop (mkF m 50 #[rv ad, iv xk.toInt32, iv 3, rv fr, rv tv, rv b206, iv 1, .unset] [(.int 1), (.ref tv), (.int 1), (.ref b206)]))
        refine Go.iaload C X251 ((AT_.ext E206).other W251 ne_tv_b206) (by decide) rfl d3_50 ?_
        show Go p e below s n0 _ _ _ (T251.setTop (mkF m 51 #[rv ad, iv xk.toInt32, iv 3, rv fr, rv tv, rv b206, iv 1, .unset] [(.int t1), (.int 1), (.ref b206)]))
        refine Go.iastore C X251 A_251 (by decide) (Nat.le_of_ble_eq_true rfl) ge206 d3_51 (fun T276 h276 X276 W276 A276 => ?_)
        have A_276 : AR Z h276 b206 .int [(.int t0), (.int t1), (.int 0), (.int 0)] := A276
        have O_277 : AO Z h276 ad (ouV cc cc rs) := (((O.ext E206).other W251 ne_ad_b206).other W276 ne_ad_b206)
        have AF__278 : AR Z h276 fr .int [(.int g0.toInt32), (.int g1.toInt32), (.int g2.toInt32), (.int g3.toInt32)] := (((AF_.ext E206).other W251 ne_fr_b206).other W276 ne_fr_b206)
        have AT__279 : AR Z h276 tv .int [(.int t0), (.int t1), (.int t2), (.int t3)] := (((AT_.ext E206).other W251 ne_tv_b206).other W276 ne_tv_b206)
        have K276 : Keep h0 h276 [] := K251.wr W276 (Or.inr old_b206)
        show Go p e below s n0 _ _ _ (T276.setTop (mkF m 52 #[rv ad, iv xk.toInt32, iv 3, rv fr, rv tv, rv b206, iv 1, .unset] []))
        refine Go.st (fun _ => XS.iinc X276.here C.hx rfl (hb C.hby d3_52) rfl (l' := #[rv ad, iv xk.toInt32, iv 3, rv fr, rv tv, rv b206, iv 2, .unset]) rfl) ?_
        show Go p e below s n0 _ _ _ (T276.setTop (mkF m 55 #[rv ad, iv xk.toInt32, iv 3, rv fr, rv tv, rv b206, iv 2, .unset] []))
        refine Go.st (fun _ => XS.iloadN X276.here C.hx rfl (hb C.hby d3_55) rfl) ?_
        show Go p e below s n0 _ _ _ (T276.setTop (mkF m 56 #[rv ad, iv xk.toInt32, iv 3, rv fr, rv tv, rv b206, iv 2, .unset] [(.int 3)]))
        refine Go.st (fun _ => XS.iconst X276.here C.hx rfl (hb C.hby d3_56)) ?_
        show Go p e below s n0 _ _ _ (T276.setTop (mkF m 57 #[rv ad, iv xk.toInt32, iv 3, rv fr, rv tv, rv b206, iv 2, .unset] [(.int 2), (.int 3)]))
        refine Go.icmp_le C X276 (pc' := 79) d3_57 (by decide) (by decide) (fun hc => absurd hc (by decide)) (fun _ => ?_)
        show Go p e below s n0 _ _ _ (T276.setTop (mkF m 60 #[rv ad, iv xk.toInt32, iv 3, rv fr, rv tv, rv b206, iv 2, .unset] []))
        refine Go.st (fun _ => XS.aloadN X276.here C.hx rfl (hb C.hby d3_60) rfl rfl) ?_
        show Go p e below s n0 _ _ _ (T276.setTop (mkF m 61 #[rv ad, iv xk.toInt32, iv 3, rv fr, rv tv, rv b206, iv 2, .unset] [(.ref fr)]))
        refine Go.st (fun _ => XS.iconst X276.here C.hx rfl (hb C.hby d3_61)) ?_
        show Go p e below s n0 _ _ _ (T276.setTop (mkF m 62 #[rv ad, iv xk.toInt32, iv 3, rv fr, rv tv, rv b206, iv 2, .unset] [(.int 2), (.ref fr)]))
        refine Go.iaload C X276 AF__278 (by decide) rfl d3_62 ?_
        show Go p e below s n0 _ _ _ (T276.setTop (mkF m 63 #[rv ad, iv xk.toInt32, iv 3, rv fr, rv tv, rv b206, iv 2, .unset] [(.int g2.toInt32)]))
        refine Go.st (fun _ => XS.iloadN X276.here C.hx rfl (hb C.hby d3_63) rfl) ?_
        show Go p e below s n0 _ _ _ (T276.setTop (mkF m 64 #[rv ad, iv xk.toInt32, iv 3, rv fr, rv tv, rv b206, iv 2, .unset] [(.int xk.toInt32), (.int g2.toInt32)]))
        refine Go.icmp_ne C X276 (pc' := 79) d3_64 (by decide) (by decide) (fun hc64_281 => ?_) (fun hc64_281 => ?_)
        · show Go p e below s n0 _ _ _ (T276.setTop (mkF m 79 #[rv ad, iv xk.toInt32, iv 3, rv fr, rv tv, rv b206, iv 2, .unset] []))
          refine Go.st (fun _ => XS.iloadN X276.here C.hx rfl (hb C.hby d3_79) rfl) ?_
          show Go p e below s n0 _ _ _ (T276.setTop (mkF m 80 #[rv ad, iv xk.toInt32, iv 3, rv fr, rv tv, rv b206, iv 2, .unset] [(.int 3)]))
          refine Go.st (fun _ => XS.iconst X276.here C.hx rfl (hb C.hby d3_80)) ?_
          show Go p e below s n0 _ _ _ (T276.setTop (mkF m 81 #[rv ad, iv xk.toInt32, iv 3, rv fr, rv tv, rv b206, iv 2, .unset] [(.int 3), (.int 3)]))
          refine Go.icmp_le C X276 (pc' := 103) d3_81 (by decide) (by decide) (fun _ => ?_) (fun hc => absurd hc (by decide))
          have p0 := eq_true ((eqI (by omega) (by omega)).mp hc16_208).symm
          have p1 := eq_true ((eqI (by omega) (by omega)).mp hc40_254).symm
          have p2 := eq_false (fun u : xk = g2 => hc64_281 ((eqI (by omega) (by omega)).mpr u.symm))
          have RL : rowP (fsF g0 g1 g2 g3) (tsF t0 t1 t2 t3) 3 3 xk = [t0, t1] := by
            simp only [rowP, cnt, fsF0, tsF0, fsF1, tsF1, fsF2, tsF2, p0, p1, p2, if_true, if_false]
            try rfl
          have AXX : AR Z h276 (rs xk) .int [(.int t0), (.int t1)] := by have u := (AX_252.other W276 ne__rs_xk__b206); rw [RL] at u; exact u
          show Go p e below s n0 _ _ _ (T276.setTop (mkF m 103 #[rv ad, iv xk.toInt32, iv 3, rv fr, rv tv, rv b206, iv 2, .unset] []))
          refine Go.st (fun _ => XS.aloadN X276.here C.hx rfl (hb C.hby d3_103) rfl rfl) ?_
          show Go p e below s n0 _ _ _ (T276.setTop (mkF m 104 #[rv ad, iv xk.toInt32, iv 3, rv fr, rv tv, rv b206, iv 2, .unset] [(.ref ad)]))
          refine Go.st (fun _ => XS.iloadN X276.here C.hx rfl (hb C.hby d3_104) rfl) ?_
          show Go p e below s n0 _ _ _ (T276.setTop (mkF m 105 #[rv ad, iv xk.toInt32, iv 3, rv fr, rv tv, rv b206, iv 2, .unset] [(.int xk.toInt32), (.ref ad)]))
          refine Go.aaload C X276 (O_277).ar rfl (nn32 (by omega)) (ou_get hc hx) d3_105 ?_
          show Go p e below s n0 _ _ _ (T276.setTop (mkF m 106 #[rv ad, iv xk.toInt32, iv 3, rv fr, rv tv, rv b206, iv 2, .unset] [(.ref (rs xk))]))
          refine Go.st (fun _ => XS.astore X276.here C.hx rfl (hb C.hby d3_106) rfl rfl (l' := #[rv ad, iv xk.toInt32, iv 3, rv fr, rv tv, rv b206, iv 2, rv (rs xk)]) rfl) ?_
          show Go p e below s n0 _ _ _ (T276.setTop (mkF m 108 #[rv ad, iv xk.toInt32, iv 3, rv fr, rv tv, rv b206, iv 2, rv (rs xk)] []))
          refine Go.st (fun _ => XS.aload X276.here C.hx rfl (hb C.hby d3_108) rfl rfl) ?_
          show Go p e below s n0 _ _ _ (T276.setTop (mkF m 110 #[rv ad, iv xk.toInt32, iv 3, rv fr, rv tv, rv b206, iv 2, rv (rs xk)] [(.ref (rs xk))]))
          refine Go.st (fun _ => XS.ifnullNo X276.here C.hx rfl (hb C.hby d3_110) rfl) ?_
          show Go p e below s n0 _ _ _ (T276.setTop (mkF m 113 #[rv ad, iv xk.toInt32, iv 3, rv fr, rv tv, rv b206, iv 2, rv (rs xk)] []))
          refine Go.st (fun _ => XS.aload X276.here C.hx rfl (hb C.hby d3_113) rfl rfl) ?_
          show Go p e below s n0 _ _ _ (T276.setTop (mkF m 115 #[rv ad, iv xk.toInt32, iv 3, rv fr, rv tv, rv b206, iv 2, rv (rs xk)] [(.ref (rs xk))]))
          refine Go.alen C X276 AXX (z := (2 : Int32)) rfl d3_115 ?_
          show Go p e below s n0 _ _ _ (T276.setTop (mkF m 116 #[rv ad, iv xk.toInt32, iv 3, rv fr, rv tv, rv b206, iv 2, rv (rs xk)] [(.int 2)]))
          refine Go.st (fun _ => XS.iload X276.here C.hx rfl (hb C.hby d3_116) rfl) ?_
          show Go p e below s n0 _ _ _ (T276.setTop (mkF m 118 #[rv ad, iv xk.toInt32, iv 3, rv fr, rv tv, rv b206, iv 2, rv (rs xk)] [(.int 2), (.int 2)]))
          refine Go.icmp_eq C X276 (pc' := 123) d3_118 (by decide) (by decide) (fun _ => ?_) (fun hc => absurd hc (by decide))
          show Go p e below s n0 _ _ _ (T276.setTop (mkF m 123 #[rv ad, iv xk.toInt32, iv 3, rv fr, rv tv, rv b206, iv 2, rv (rs xk)] []))
          refine Go.st (fun _ => XS.iload X276.here C.hx rfl (hb C.hby d3_123) rfl) ?_
          show Go p e below s n0 _ _ _ (T276.setTop (mkF m 125 #[rv ad, iv xk.toInt32, iv 3, rv fr, rv tv, rv b206, iv 2, rv (rs xk)] [(.int 2)]))
          refine Go.st (fun _ => XS.iconst X276.here C.hx rfl (hb C.hby d3_125)) ?_
          show Go p e below s n0 _ _ _ (T276.setTop (mkF m 126 #[rv ad, iv xk.toInt32, iv 3, rv fr, rv tv, rv b206, iv 2, rv (rs xk)] [(.int 1), (.int 2)]))
          refine Go.icmp_lt C X276 (pc' := 140) d3_126 (by decide) (by decide) (fun hc => absurd hc (by decide)) (fun _ => ?_)
          show Go p e below s n0 _ _ _ (T276.setTop (mkF m 129 #[rv ad, iv xk.toInt32, iv 3, rv fr, rv tv, rv b206, iv 2, rv (rs xk)] []))
          refine Go.st (fun _ => XS.aload X276.here C.hx rfl (hb C.hby d3_129) rfl rfl) ?_
          show Go p e below s n0 _ _ _ (T276.setTop (mkF m 131 #[rv ad, iv xk.toInt32, iv 3, rv fr, rv tv, rv b206, iv 2, rv (rs xk)] [(.ref (rs xk))]))
          refine Go.st (fun _ => XS.iconst X276.here C.hx rfl (hb C.hby d3_131)) ?_
          show Go p e below s n0 _ _ _ (T276.setTop (mkF m 132 #[rv ad, iv xk.toInt32, iv 3, rv fr, rv tv, rv b206, iv 2, rv (rs xk)] [(.int 0), (.ref (rs xk))]))
          refine Go.iaload C X276 AXX (by decide) rfl d3_132 ?_
          show Go p e below s n0 _ _ _ (T276.setTop (mkF m 133 #[rv ad, iv xk.toInt32, iv 3, rv fr, rv tv, rv b206, iv 2, rv (rs xk)] [(.int t0)]))
          refine Go.st (fun _ => XS.aload X276.here C.hx rfl (hb C.hby d3_133) rfl rfl) ?_
          show Go p e below s n0 _ _ _ (T276.setTop (mkF m 135 #[rv ad, iv xk.toInt32, iv 3, rv fr, rv tv, rv b206, iv 2, rv (rs xk)] [(.ref b206), (.int t0)]))
          refine Go.st (fun _ => XS.iconst X276.here C.hx rfl (hb C.hby d3_135)) ?_
          show Go p e below s n0 _ _ _ (T276.setTop (mkF m 136 #[rv ad, iv xk.toInt32, iv 3, rv fr, rv tv, rv b206, iv 2, rv (rs xk)] [(.int 0), (.ref b206), (.int t0)]))
          refine Go.iaload C X276 A_276 (by decide) rfl d3_136 ?_
          show Go p e below s n0 _ _ _ (T276.setTop (mkF m 137 #[rv ad, iv xk.toInt32, iv 3, rv fr, rv tv, rv b206, iv 2, rv (rs xk)] [(.int t0), (.int t0)]))
          refine Go.icmp_ne C X276 (pc' := 195) d3_137 (by decide) (by decide) (fun hc => by first | exact absurd hc rfl | exact absurd rfl hc) (fun _ => ?_)
          show Go p e below s n0 _ _ _ (T276.setTop (mkF m 140 #[rv ad, iv xk.toInt32, iv 3, rv fr, rv tv, rv b206, iv 2, rv (rs xk)] []))
          refine Go.st (fun _ => XS.iload X276.here C.hx rfl (hb C.hby d3_140) rfl) ?_
          show Go p e below s n0 _ _ _ (T276.setTop (mkF m 142 #[rv ad, iv xk.toInt32, iv 3, rv fr, rv tv, rv b206, iv 2, rv (rs xk)] [(.int 2)]))
          refine Go.st (fun _ => XS.iconst X276.here C.hx rfl (hb C.hby d3_142)) ?_
          show Go p e below s n0 _ _ _ (T276.setTop (mkF m 143 #[rv ad, iv xk.toInt32, iv 3, rv fr, rv tv, rv b206, iv 2, rv (rs xk)] [(.int 2), (.int 2)]))
          refine Go.icmp_lt C X276 (pc' := 157) d3_143 (by decide) (by decide) (fun hc => absurd hc (by decide)) (fun _ => ?_)
          show Go p e below s n0 _ _ _ (T276.setTop (mkF m 146 #[rv ad, iv xk.toInt32, iv 3, rv fr, rv tv, rv b206, iv 2, rv (rs xk)] []))
          refine Go.st (fun _ => XS.aload X276.here C.hx rfl (hb C.hby d3_146) rfl rfl) ?_
          show Go p e below s n0 _ _ _ (T276.setTop (mkF m 148 #[rv ad, iv xk.toInt32, iv 3, rv fr, rv tv, rv b206, iv 2, rv (rs xk)] [(.ref (rs xk))]))
          refine Go.st (fun _ => XS.iconst X276.here C.hx rfl (hb C.hby d3_148)) ?_
          show Go p e below s n0 _ _ _ (T276.setTop (mkF m 149 #[rv ad, iv xk.toInt32, iv 3, rv fr, rv tv, rv b206, iv 2, rv (rs xk)] [(.int 1), (.ref (rs xk))]))
          refine Go.iaload C X276 AXX (by decide) rfl d3_149 ?_
          show Go p e below s n0 _ _ _ (T276.setTop (mkF m 150 #[rv ad, iv xk.toInt32, iv 3, rv fr, rv tv, rv b206, iv 2, rv (rs xk)] [(.int t1)]))
          refine Go.st (fun _ => XS.aload X276.here C.hx rfl (hb C.hby d3_150) rfl rfl) ?_
          show Go p e below s n0 _ _ _ (T276.setTop (mkF m 152 #[rv ad, iv xk.toInt32, iv 3, rv fr, rv tv, rv b206, iv 2, rv (rs xk)] [(.ref b206), (.int t1)]))
          refine Go.st (fun _ => XS.iconst X276.here C.hx rfl (hb C.hby d3_152)) ?_
          show Go p e below s n0 _ _ _ (T276.setTop (mkF m 153 #[rv ad, iv xk.toInt32, iv 3, rv fr, rv tv, rv b206, iv 2, rv (rs xk)] [(.int 1), (.ref b206), (.int t1)]))
          refine Go.iaload C X276 A_276 (by decide) rfl d3_153 ?_
          show Go p e below s n0 _ _ _ (T276.setTop (mkF m 154 #[rv ad, iv xk.toInt32, iv 3, rv fr, rv tv, rv b206, iv 2, rv (rs xk)] [(.int t1), (.int t1)]))
          refine Go.icmp_ne C X276 (pc' := 195) d3_154 (by decide) (by decide) (fun hc => by first | exact absurd hc rfl | exact absurd rfl hc) (fun _ => ?_)
          show Go p e below s n0 _ _ _ (T276.setTop (mkF m 157 #[rv ad, iv xk.toInt32, iv 3, rv fr, rv tv, rv b206, iv 2, rv (rs xk)] []))
          refine Go.st (fun _ => XS.iload X276.here C.hx rfl (hb C.hby d3_157) rfl) ?_
          show Go p e below s n0 _ _ _ (T276.setTop (mkF m 159 #[rv ad, iv xk.toInt32, iv 3, rv fr, rv tv, rv b206, iv 2, rv (rs xk)] [(.int 2)]))
          refine Go.st (fun _ => XS.iconst X276.here C.hx rfl (hb C.hby d3_159)) ?_
          show Go p e below s n0 _ _ _ (T276.setTop (mkF m 160 #[rv ad, iv xk.toInt32, iv 3, rv fr, rv tv, rv b206, iv 2, rv (rs xk)] [(.int 3), (.int 2)]))
          refine Go.icmp_lt C X276 (pc' := 174) d3_160 (by decide) (by decide) (fun _ => ?_) (fun hc => absurd hc (by decide))
          show Go p e below s n0 _ _ _ (T276.setTop (mkF m 174 #[rv ad, iv xk.toInt32, iv 3, rv fr, rv tv, rv b206, iv 2, rv (rs xk)] []))
          refine Go.st (fun _ => XS.iload X276.here C.hx rfl (hb C.hby d3_174) rfl) ?_
          show Go p e below s n0 _ _ _ (T276.setTop (mkF m 176 #[rv ad, iv xk.toInt32, iv 3, rv fr, rv tv, rv b206, iv 2, rv (rs xk)] [(.int 2)]))
          refine Go.st (fun _ => XS.iconst X276.here C.hx rfl (hb C.hby d3_176)) ?_
          show Go p e below s n0 _ _ _ (T276.setTop (mkF m 177 #[rv ad, iv xk.toInt32, iv 3, rv fr, rv tv, rv b206, iv 2, rv (rs xk)] [(.int 4), (.int 2)]))
          refine Go.icmp_lt C X276 (pc' := 191) d3_177 (by decide) (by decide) (fun _ => ?_) (fun hc => absurd hc (by decide))
          show Go p e below s n0 _ _ _ (T276.setTop (mkF m 191 #[rv ad, iv xk.toInt32, iv 3, rv fr, rv tv, rv b206, iv 2, rv (rs xk)] []))
          refine Go.st (fun _ => XS.iconst X276.here C.hx rfl (hb C.hby d3_191)) ?_
          show Go p e below s n0 _ _ _ (T276.setTop (mkF m 192 #[rv ad, iv xk.toInt32, iv 3, rv fr, rv tv, rv b206, iv 2, rv (rs xk)] [(.int 1)]))
          refine Go.st (fun _ => XS.goto X276.here C.hx rfl (pc0 := 192) (pc' := 196) rfl (hb C.hby d3_192) (by decide) (by decide)) ?_
          show Go p e below s n0 _ _ _ (T276.setTop (mkF m 196 #[rv ad, iv xk.toInt32, iv 3, rv fr, rv tv, rv b206, iv 2, rv (rs xk)] [(.int 1)]))
          exact Go.retZ C X276 (by decide) d3_196 ⟨rfl, K276⟩ (by decide) (by decide)
        · show Go p e below s n0 _ _ _ (T276.setTop (mkF m 67 #[rv ad, iv xk.toInt32, iv 3, rv fr, rv tv, rv b206, iv 2, .unset] []))
          refine Go.st (fun _ => XS.aload X276.here C.hx rfl (hb C.hby d3_67) rfl rfl) ?_
          show Go p e below s n0 _ _ _ (T276.setTop (mkF m 69 #[rv ad, iv xk.toInt32, iv 3, rv fr, rv tv, rv b206, iv 2, .unset] [(.ref b206)]))
          refine Go.st (fun _ => XS.iload X276.here C.hx rfl (hb C.hby d3_69) rfl) ?_
          show Go p e below s n0 _ _ _ (T276.setTop (mkF m 71 #[rv ad, iv xk.toInt32, iv 3, rv fr, rv tv, rv b206, iv 2, .unset] [(.int 2), (.ref b206)]))
          refine Go.st (fun _ => XS.aload X276.here C.hx rfl (hb C.hby d3_71) rfl rfl) ?_
          show Go p e below s n0 _ _ _ (T276.setTop (mkF m 73 #[rv ad, iv xk.toInt32, iv 3, rv fr, rv tv, rv b206, iv 2, .unset] [(.ref tv), (.int 2), (.ref b206)]))
          refine Go.st (fun _ => XS.iconst X276.here C.hx rfl (hb C.hby d3_73)) ?_
          show Go p e below s n0 _ _ _ (T276.setTop (mkF m 74 #[rv ad, iv xk.toInt32, iv 3, rv fr, rv tv, rv b206, iv 2, .unset] [(.int 2), (.ref tv), (.int 2), (.ref b206)]))
          refine Go.iaload C X276 AT__279 (by decide) rfl d3_74 ?_
          show Go p e below s n0 _ _ _ (T276.setTop (mkF m 75 #[rv ad, iv xk.toInt32, iv 3, rv fr, rv tv, rv b206, iv 2, .unset] [(.int t2), (.int 2), (.ref b206)]))
          refine Go.iastore C X276 A_276 (by decide) (Nat.le_of_ble_eq_true rfl) ge206 d3_75 (fun T290 h290 X290 W290 A290 => ?_)
          have A_290 : AR Z h290 b206 .int [(.int t0), (.int t1), (.int t2), (.int 0)] := A290
          have AX_291 : AR Z h290 (rs xk) .int ((rowP (fsF g0 g1 g2 g3) (tsF t0 t1 t2 t3) 3 3 xk).map Value.int) := ((AX_252.other W276 ne__rs_xk__b206).other W290 ne__rs_xk__b206)
          have K290 : Keep h0 h290 [] := K276.wr W290 (Or.inr old_b206)
          show Go p e below s n0 _ _ _ (T290.setTop (mkF m 76 #[rv ad, iv xk.toInt32, iv 3, rv fr, rv tv, rv b206, iv 2, .unset] []))
          refine Go.st (fun _ => XS.iinc X290.here C.hx rfl (hb C.hby d3_76) rfl (l' := #[rv ad, iv xk.toInt32, iv 3, rv fr, rv tv, rv b206, iv 3, .unset]) rfl) ?_
          show Go p e below s n0 _ _ _ (T290.setTop (mkF m 79 #[rv ad, iv xk.toInt32, iv 3, rv fr, rv tv, rv b206, iv 3, .unset] []))
          refine Go.st (fun _ => XS.iloadN X290.here C.hx rfl (hb C.hby d3_79) rfl) ?_
          show Go p e below s n0 _ _ _ (T290.setTop (mkF m 80 #[rv ad, iv xk.toInt32, iv 3, rv fr, rv tv, rv b206, iv 3, .unset] [(.int 3)]))
          refine Go.st (fun _ => XS.iconst X290.here C.hx rfl (hb C.hby d3_80)) ?_
          show Go p e below s n0 _ _ _ (T290.setTop (mkF m 81 #[rv ad, iv xk.toInt32, iv 3, rv fr, rv tv, rv b206, iv 3, .unset] [(.int 3), (.int 3)]))
          refine Go.icmp_le C X290 (pc' := 103) d3_81 (by decide) (by decide) (fun _ => ?_) (fun hc => absurd hc (by decide))
          have p0 := eq_true ((eqI (by omega) (by omega)).mp hc16_208).symm
          have p1 := eq_true ((eqI (by omega) (by omega)).mp hc40_254).symm
          have p2 := eq_true ((eqI (by omega) (by omega)).mp hc64_281).symm
          have RL : rowP (fsF g0 g1 g2 g3) (tsF t0 t1 t2 t3) 3 3 xk = [t0, t1, t2] := by
            simp only [rowP, cnt, fsF0, tsF0, fsF1, tsF1, fsF2, tsF2, p0, p1, p2, if_true, if_false]
            try rfl
          have AXX : AR Z h290 (rs xk) .int [(.int t0), (.int t1), (.int t2)] := by have u := AX_291; rw [RL] at u; exact u
          show Go p e below s n0 _ _ _ (T290.setTop (mkF m 103 #[rv ad, iv xk.toInt32, iv 3, rv fr, rv tv, rv b206, iv 3, .unset] []))
          refine Go.st (fun _ => XS.aloadN X290.here C.hx rfl (hb C.hby d3_103) rfl rfl) ?_
          show Go p e below s n0 _ _ _ (T290.setTop (mkF m 104 #[rv ad, iv xk.toInt32, iv 3, rv fr, rv tv, rv b206, iv 3, .unset] [(.ref ad)]))
          refine Go.st (fun _ => XS.iloadN X290.here C.hx rfl (hb C.hby d3_104) rfl) ?_
          show Go p e below s n0 _ _ _ (T290.setTop (mkF m 105 #[rv ad, iv xk.toInt32, iv 3, rv fr, rv tv, rv b206, iv 3, .unset] [(.int xk.toInt32), (.ref ad)]))
          refine Go.aaload C X290 ((O_277.other W290 ne_ad_b206)).ar rfl (nn32 (by omega)) (ou_get hc hx) d3_105 ?_
          show Go p e below s n0 _ _ _ (T290.setTop (mkF m 106 #[rv ad, iv xk.toInt32, iv 3, rv fr, rv tv, rv b206, iv 3, .unset] [(.ref (rs xk))]))
          refine Go.st (fun _ => XS.astore X290.here C.hx rfl (hb C.hby d3_106) rfl rfl (l' := #[rv ad, iv xk.toInt32, iv 3, rv fr, rv tv, rv b206, iv 3, rv (rs xk)]) rfl) ?_
          show Go p e below s n0 _ _ _ (T290.setTop (mkF m 108 #[rv ad, iv xk.toInt32, iv 3, rv fr, rv tv, rv b206, iv 3, rv (rs xk)] []))
          refine Go.st (fun _ => XS.aload X290.here C.hx rfl (hb C.hby d3_108) rfl rfl) ?_
          show Go p e below s n0 _ _ _ (T290.setTop (mkF m 110 #[rv ad, iv xk.toInt32, iv 3, rv fr, rv tv, rv b206, iv 3, rv (rs xk)] [(.ref (rs xk))]))
          refine Go.st (fun _ => XS.ifnullNo X290.here C.hx rfl (hb C.hby d3_110) rfl) ?_
          show Go p e below s n0 _ _ _ (T290.setTop (mkF m 113 #[rv ad, iv xk.toInt32, iv 3, rv fr, rv tv, rv b206, iv 3, rv (rs xk)] []))
          refine Go.st (fun _ => XS.aload X290.here C.hx rfl (hb C.hby d3_113) rfl rfl) ?_
          show Go p e below s n0 _ _ _ (T290.setTop (mkF m 115 #[rv ad, iv xk.toInt32, iv 3, rv fr, rv tv, rv b206, iv 3, rv (rs xk)] [(.ref (rs xk))]))
          refine Go.alen C X290 AXX (z := (3 : Int32)) rfl d3_115 ?_
          show Go p e below s n0 _ _ _ (T290.setTop (mkF m 116 #[rv ad, iv xk.toInt32, iv 3, rv fr, rv tv, rv b206, iv 3, rv (rs xk)] [(.int 3)]))
          refine Go.st (fun _ => XS.iload X290.here C.hx rfl (hb C.hby d3_116) rfl) ?_
          show Go p e below s n0 _ _ _ (T290.setTop (mkF m 118 #[rv ad, iv xk.toInt32, iv 3, rv fr, rv tv, rv b206, iv 3, rv (rs xk)] [(.int 3), (.int 3)]))
          refine Go.icmp_eq C X290 (pc' := 123) d3_118 (by decide) (by decide) (fun _ => ?_) (fun hc => absurd hc (by decide))
          show Go p e below s n0 _ _ _ (T290.setTop (mkF m 123 #[rv ad, iv xk.toInt32, iv 3, rv fr, rv tv, rv b206, iv 3, rv (rs xk)] []))
          refine Go.st (fun _ => XS.iload X290.here C.hx rfl (hb C.hby d3_123) rfl) ?_
          show Go p e below s n0 _ _ _ (T290.setTop (mkF m 125 #[rv ad, iv xk.toInt32, iv 3, rv fr, rv tv, rv b206, iv 3, rv (rs xk)] [(.int 3)]))
          refine Go.st (fun _ => XS.iconst X290.here C.hx rfl (hb C.hby d3_125)) ?_
          show Go p e below s n0 _ _ _ (T290.setTop (mkF m 126 #[rv ad, iv xk.toInt32, iv 3, rv fr, rv tv, rv b206, iv 3, rv (rs xk)] [(.int 1), (.int 3)]))
          refine Go.icmp_lt C X290 (pc' := 140) d3_126 (by decide) (by decide) (fun hc => absurd hc (by decide)) (fun _ => ?_)
          show Go p e below s n0 _ _ _ (T290.setTop (mkF m 129 #[rv ad, iv xk.toInt32, iv 3, rv fr, rv tv, rv b206, iv 3, rv (rs xk)] []))
          refine Go.st (fun _ => XS.aload X290.here C.hx rfl (hb C.hby d3_129) rfl rfl) ?_
          show Go p e below s n0 _ _ _ (T290.setTop (mkF m 131 #[rv ad, iv xk.toInt32, iv 3, rv fr, rv tv, rv b206, iv 3, rv (rs xk)] [(.ref (rs xk))]))
          refine Go.st (fun _ => XS.iconst X290.here C.hx rfl (hb C.hby d3_131)) ?_
          show Go p e below s n0 _ _ _ (T290.setTop (mkF m 132 #[rv ad, iv xk.toInt32, iv 3, rv fr, rv tv, rv b206, iv 3, rv (rs xk)] [(.int 0), (.ref (rs xk))]))
          refine Go.iaload C X290 AXX (by decide) rfl d3_132 ?_
          show Go p e below s n0 _ _ _ (T290.setTop (mkF m 133 #[rv ad, iv xk.toInt32, iv 3, rv fr, rv tv, rv b206, iv 3, rv (rs xk)] [(.int t0)]))
          refine Go.st (fun _ => XS.aload X290.here C.hx rfl (hb C.hby d3_133) rfl rfl) ?_
          show Go p e below s n0 _ _ _ (T290.setTop (mkF m 135 #[rv ad, iv xk.toInt32, iv 3, rv fr, rv tv, rv b206, iv 3, rv (rs xk)] [(.ref b206), (.int t0)]))
          refine Go.st (fun _ => XS.iconst X290.here C.hx rfl (hb C.hby d3_135)) ?_
          show Go p e below s n0 _ _ _ (T290.setTop (mkF m 136 #[rv ad, iv xk.toInt32, iv 3, rv fr, rv tv, rv b206, iv 3, rv (rs xk)] [(.int 0), (.ref b206), (.int t0)]))
          refine Go.iaload C X290 A_290 (by decide) rfl d3_136 ?_
          show Go p e below s n0 _ _ _ (T290.setTop (mkF m 137 #[rv ad, iv xk.toInt32, iv 3, rv fr, rv tv, rv b206, iv 3, rv (rs xk)] [(.int t0), (.int t0)]))
          refine Go.icmp_ne C X290 (pc' := 195) d3_137 (by decide) (by decide) (fun hc => by first | exact absurd hc rfl | exact absurd rfl hc) (fun _ => ?_)
          show Go p e below s n0 _ _ _ (T290.setTop (mkF m 140 #[rv ad, iv xk.toInt32, iv 3, rv fr, rv tv, rv b206, iv 3, rv (rs xk)] []))
          refine Go.st (fun _ => XS.iload X290.here C.hx rfl (hb C.hby d3_140) rfl) ?_
          show Go p e below s n0 _ _ _ (T290.setTop (mkF m 142 #[rv ad, iv xk.toInt32, iv 3, rv fr, rv tv, rv b206, iv 3, rv (rs xk)] [(.int 3)]))
          refine Go.st (fun _ => XS.iconst X290.here C.hx rfl (hb C.hby d3_142)) ?_
          show Go p e below s n0 _ _ _ (T290.setTop (mkF m 143 #[rv ad, iv xk.toInt32, iv 3, rv fr, rv tv, rv b206, iv 3, rv (rs xk)] [(.int 2), (.int 3)]))
          refine Go.icmp_lt C X290 (pc' := 157) d3_143 (by decide) (by decide) (fun hc => absurd hc (by decide)) (fun _ => ?_)
          show Go p e below s n0 _ _ _ (T290.setTop (mkF m 146 #[rv ad, iv xk.toInt32, iv 3, rv fr, rv tv, rv b206, iv 3, rv (rs xk)] []))
          refine Go.st (fun _ => XS.aload X290.here C.hx rfl (hb C.hby d3_146) rfl rfl) ?_
          show Go p e below s n0 _ _ _ (T290.setTop (mkF m 148 #[rv ad, iv xk.toInt32, iv 3, rv fr, rv tv, rv b206, iv 3, rv (rs xk)] [(.ref (rs xk))]))
          refine Go.st (fun _ => XS.iconst X290.here C.hx rfl (hb C.hby d3_148)) ?_
          show Go p e below s n0 _ _ _ (T290.setTop (mkF m 149 #[rv ad, iv xk.toInt32, iv 3, rv fr, rv tv, rv b206, iv 3, rv (rs xk)] [(.int 1), (.ref (rs xk))]))
          refine Go.iaload C X290 AXX (by decide) rfl d3_149 ?_
          show Go p e below s n0 _ _ _ (T290.setTop (mkF m 150 #[rv ad, iv xk.toInt32, iv 3, rv fr, rv tv, rv b206, iv 3, rv (rs xk)] [(.int t1)]))
          refine Go.st (fun _ => XS.aload X290.here C.hx rfl (hb C.hby d3_150) rfl rfl) ?_
          show Go p e below s n0 _ _ _ (T290.setTop (mkF m 152 #[rv ad, iv xk.toInt32, iv 3, rv fr, rv tv, rv b206, iv 3, rv (rs xk)] [(.ref b206), (.int t1)]))
          refine Go.st (fun _ => XS.iconst X290.here C.hx rfl (hb C.hby d3_152)) ?_
          show Go p e below s n0 _ _ _ (T290.setTop (mkF m 153 #[rv ad, iv xk.toInt32, iv 3, rv fr, rv tv, rv b206, iv 3, rv (rs xk)] [(.int 1), (.ref b206), (.int t1)]))
          refine Go.iaload C X290 A_290 (by decide) rfl d3_153 ?_
          show Go p e below s n0 _ _ _ (T290.setTop (mkF m 154 #[rv ad, iv xk.toInt32, iv 3, rv fr, rv tv, rv b206, iv 3, rv (rs xk)] [(.int t1), (.int t1)]))
          refine Go.icmp_ne C X290 (pc' := 195) d3_154 (by decide) (by decide) (fun hc => by first | exact absurd hc rfl | exact absurd rfl hc) (fun _ => ?_)
          show Go p e below s n0 _ _ _ (T290.setTop (mkF m 157 #[rv ad, iv xk.toInt32, iv 3, rv fr, rv tv, rv b206, iv 3, rv (rs xk)] []))
          refine Go.st (fun _ => XS.iload X290.here C.hx rfl (hb C.hby d3_157) rfl) ?_
          show Go p e below s n0 _ _ _ (T290.setTop (mkF m 159 #[rv ad, iv xk.toInt32, iv 3, rv fr, rv tv, rv b206, iv 3, rv (rs xk)] [(.int 3)]))
          refine Go.st (fun _ => XS.iconst X290.here C.hx rfl (hb C.hby d3_159)) ?_
          show Go p e below s n0 _ _ _ (T290.setTop (mkF m 160 #[rv ad, iv xk.toInt32, iv 3, rv fr, rv tv, rv b206, iv 3, rv (rs xk)] [(.int 3), (.int 3)]))
          refine Go.icmp_lt C X290 (pc' := 174) d3_160 (by decide) (by decide) (fun hc => absurd hc (by decide)) (fun _ => ?_)
          show Go p e below s n0 _ _ _ (T290.setTop (mkF m 163 #[rv ad, iv xk.toInt32, iv 3, rv fr, rv tv, rv b206, iv 3, rv (rs xk)] []))
          refine Go.st (fun _ => XS.aload X290.here C.hx rfl (hb C.hby d3_163) rfl rfl) ?_
          show Go p e below s n0 _ _ _ (T290.setTop (mkF m 165 #[rv ad, iv xk.toInt32, iv 3, rv fr, rv tv, rv b206, iv 3, rv (rs xk)] [(.ref (rs xk))]))
          refine Go.st (fun _ => XS.iconst X290.here C.hx rfl (hb C.hby d3_165)) ?_
          show Go p e below s n0 _ _ _ (T290.setTop (mkF m 166 #[rv ad, iv xk.toInt32, iv 3, rv fr, rv tv, rv b206, iv 3, rv (rs xk)] [(.int 2), (.ref (rs xk))]))
          refine Go.iaload C X290 AXX (by decide) rfl d3_166 ?_
          show Go p e below s n0 _ _ _ (T290.setTop (mkF m 167 #[rv ad, iv xk.toInt32, iv 3, rv fr, rv tv, rv b206, iv 3, rv (rs xk)] [(.int t2)]))
          refine Go.st (fun _ => XS.aload X290.here C.hx rfl (hb C.hby d3_167) rfl rfl) ?_
          show Go p e below s n0 _ _ _ (T290.setTop (mkF m 169 #[rv ad, iv xk.toInt32, iv 3, rv fr, rv tv, rv b206, iv 3, rv (rs xk)] [(.ref b206), (.int t2)]))
          refine Go.st (fun _ => XS.iconst X290.here C.hx rfl (hb C.hby d3_169)) ?_
          show Go p e below s n0 _ _ _ (T290.setTop (mkF m 170 #[rv ad, iv xk.toInt32, iv 3, rv fr, rv tv, rv b206, iv 3, rv (rs xk)] [(.int 2), (.ref b206), (.int t2)]))
          refine Go.iaload C X290 A_290 (by decide) rfl d3_170 ?_
          show Go p e below s n0 _ _ _ (T290.setTop (mkF m 171 #[rv ad, iv xk.toInt32, iv 3, rv fr, rv tv, rv b206, iv 3, rv (rs xk)] [(.int t2), (.int t2)]))
          refine Go.icmp_ne C X290 (pc' := 195) d3_171 (by decide) (by decide) (fun hc => by first | exact absurd hc rfl | exact absurd rfl hc) (fun _ => ?_)
          show Go p e below s n0 _ _ _ (T290.setTop (mkF m 174 #[rv ad, iv xk.toInt32, iv 3, rv fr, rv tv, rv b206, iv 3, rv (rs xk)] []))
          refine Go.st (fun _ => XS.iload X290.here C.hx rfl (hb C.hby d3_174) rfl) ?_
          show Go p e below s n0 _ _ _ (T290.setTop (mkF m 176 #[rv ad, iv xk.toInt32, iv 3, rv fr, rv tv, rv b206, iv 3, rv (rs xk)] [(.int 3)]))
          refine Go.st (fun _ => XS.iconst X290.here C.hx rfl (hb C.hby d3_176)) ?_
          show Go p e below s n0 _ _ _ (T290.setTop (mkF m 177 #[rv ad, iv xk.toInt32, iv 3, rv fr, rv tv, rv b206, iv 3, rv (rs xk)] [(.int 4), (.int 3)]))
          refine Go.icmp_lt C X290 (pc' := 191) d3_177 (by decide) (by decide) (fun _ => ?_) (fun hc => absurd hc (by decide))
          show Go p e below s n0 _ _ _ (T290.setTop (mkF m 191 #[rv ad, iv xk.toInt32, iv 3, rv fr, rv tv, rv b206, iv 3, rv (rs xk)] []))
          refine Go.st (fun _ => XS.iconst X290.here C.hx rfl (hb C.hby d3_191)) ?_
          show Go p e below s n0 _ _ _ (T290.setTop (mkF m 192 #[rv ad, iv xk.toInt32, iv 3, rv fr, rv tv, rv b206, iv 3, rv (rs xk)] [(.int 1)]))
          refine Go.st (fun _ => XS.goto X290.here C.hx rfl (pc0 := 192) (pc' := 196) rfl (hb C.hby d3_192) (by decide) (by decide)) ?_
          show Go p e below s n0 _ _ _ (T290.setTop (mkF m 196 #[rv ad, iv xk.toInt32, iv 3, rv fr, rv tv, rv b206, iv 3, rv (rs xk)] [(.int 1)]))
          exact Go.retZ C X290 (by decide) d3_196 ⟨rfl, K290⟩ (by decide) (by decide)
  · subst hnz
    show Go p e below s n0 _ _ _ (T0.setTop (mkF m 0 #[rv ad, iv xk.toInt32, iv 4, rv fr, rv tv, .unset, .unset, .unset] []))
    refine Go.st (fun _ => XS.iconst X0.here C.hx rfl (hb C.hby d3_0)) ?_
    show Go p e below s n0 _ _ _ (T0.setTop (mkF m 1 #[rv ad, iv xk.toInt32, iv 4, rv fr, rv tv, .unset, .unset, .unset] [(.int 4)]))
    refine Go.newP C X0 (aty := .int) (cap := 4) (wd 4 rfl) d3_1 (by decide) (by decide) (by decide) (by decide) (by decide) (fun T301 h301 b301 g301 ge301 X301 E301 A301 => ?_)
    have ne_ad_b301 : ad ≠ b301 := Nat.ne_of_lt (Nat.lt_of_lt_of_le (O).lt (Nat.le_of_eq g301))
    have ne_fr_b301 : fr ≠ b301 := Nat.ne_of_lt (Nat.lt_of_lt_of_le (AF_).lt (Nat.le_of_eq g301))
    have ne_tv_b301 : tv ≠ b301 := Nat.ne_of_lt (Nat.lt_of_lt_of_le (AT_).lt (Nat.le_of_eq g301))
    have ne__rs_xk__b301 : (rs xk) ≠ b301 := Nat.ne_of_lt (Nat.lt_of_lt_of_le (AX).lt (Nat.le_of_eq g301))
    have K301 : Keep h0 h301 [] := (Keep.refl h0 []).ext E301
    have old_b301 : h0.size ≤ b301 := Nat.le_trans (Keep.refl h0 []).1 (Nat.le_of_eq g301)
    have A_b301 : AR Z h301 b301 .int [(.int 0), (.int 0), (.int 0), (.int 0)] := A301
    show Go p e below s n0 _ _ _ (T301.setTop (mkF m 3 #[rv ad, iv xk.toInt32, iv 4, rv fr, rv tv, .unset, .unset, .unset] [(.ref b301)]))
    refine Go.st (fun _ => XS.astore X301.here C.hx rfl (hb C.hby d3_3) rfl rfl (l' := #[rv ad, iv xk.toInt32, iv 4, rv fr, rv tv, rv b301, .unset, .unset]) rfl) ?_
    show Go p e below s n0 _ _ _ (T301.setTop (mkF m 5 #[rv ad, iv xk.toInt32, iv 4, rv fr, rv tv, rv b301, .unset, .unset] []))
    refine Go.st (fun _ => XS.iconst X301.here C.hx rfl (hb C.hby d3_5)) ?_
    show Go p e below s n0 _ _ _ (T301.setTop (mkF m 6 #[rv ad, iv xk.toInt32, iv 4, rv fr, rv tv, rv b301, .unset, .unset] [(.int 0)]))
    refine Go.st (fun _ => XS.istore X301.here C.hx rfl (hb C.hby d3_6) rfl (l' := #[rv ad, iv xk.toInt32, iv 4, rv fr, rv tv, rv b301, iv 0, .unset]) rfl) ?_
    show Go p e below s n0 _ _ _ (T301.setTop (mkF m 8 #[rv ad, iv xk.toInt32, iv 4, rv fr, rv tv, rv b301, iv 0, .unset] []))
    refine Go.st (fun _ => XS.iloadN X301.here C.hx rfl (hb C.hby d3_8) rfl) ?_
    show Go p e below s n0 _ _ _ (T301.setTop (mkF m 9 #[rv ad, iv xk.toInt32, iv 4, rv fr, rv tv, rv b301, iv 0, .unset] [(.int 4)]))
    refine Go.if_le C X301 (pc' := 31) d3_9 (by decide) (by decide) (fun hc => absurd hc (by decide)) (fun _ => ?_)
    show Go p e below s n0 _ _ _ (T301.setTop (mkF m 12 #[rv ad, iv xk.toInt32, iv 4, rv fr, rv tv, rv b301, iv 0, .unset] []))
    refine Go.st (fun _ => XS.aloadN X301.here C.hx rfl (hb C.hby d3_12) rfl rfl) ?_
    show Go p e below s n0 _ _ _ (T301.setTop (mkF m 13 #[rv ad, iv xk.toInt32, iv 4, rv fr, rv tv, rv b301, iv 0, .unset] [(.ref fr)]))
    refine Go.st (fun _ => XS.iconst X301.here C.hx rfl (hb C.hby d3_13)) ?_
    show Go p e below s n0 _ _ _ (T301.setTop (mkF m 14 #[rv ad, iv xk.toInt32, iv 4, rv fr, rv tv, rv b301, iv 0, .unset] [(.int 0), (.ref fr)]))
    refine Go.iaload C X301 (AF_.ext E301) (by decide) rfl d3_14 ?_
    show Go p e below s n0 _ _ _ (T301.setTop (mkF m 15 #[rv ad, iv xk.toInt32, iv 4, rv fr, rv tv, rv b301, iv 0, .unset] [(.int g0.toInt32)]))
    refine Go.st (fun _ => XS.iloadN X301.here C.hx rfl (hb C.hby d3_15) rfl) ?_
    show Go p e below s n0 _ _ _ (T301.setTop (mkF m 16 #[rv ad, iv xk.toInt32, iv 4, rv fr, rv tv, rv b301, iv 0, .unset] [(.int xk.toInt32), (.int g0.toInt32)]))
    refine Go.icmp_ne C X301 (pc' := 31) d3_16 (by decide) (by decide) (fun hc16_303 => ?_) (fun hc16_303 => ?_)
    · show Go p e below s n0 _ _ _ (T301.setTop (mkF m 31 #[rv ad, iv xk.toInt32, iv 4, rv fr, rv tv, rv b301, iv 0, .unset] []))
      refine Go.st (fun _ => XS.iloadN X301.here C.hx rfl (hb C.hby d3_31) rfl) ?_
      show Go p e below s n0 _ _ _ (T301.setTop (mkF m 32 #[rv ad, iv xk.toInt32, iv 4, rv fr, rv tv, rv b301, iv 0, .unset] [(.int 4)]))
      refine Go.st (fun _ => XS.iconst X301.here C.hx rfl (hb C.hby d3_32)) ?_
      show Go p e below s n0 _ _ _ (T301.setTop (mkF m 33 #[rv ad, iv xk.toInt32, iv 4, rv fr, rv tv, rv b301, iv 0, .unset] [(.int 1), (.int 4)]))
      refine Go.icmp_le C X301 (pc' := 55) d3_33 (by decide) (by decide) (fun hc => absurd hc (by decide)) (fun _ => ?_)
      show Go p e below s n0 _ _ _ (T301.setTop (mkF m 36 #[rv ad, iv xk.toInt32, iv 4, rv fr, rv tv, rv b301, iv 0, .unset] []))
      refine Go.st (fun _ => XS.aloadN X301.here C.hx rfl (hb C.hby d3_36) rfl rfl) ?_
      show Go p e below s n0 _ _ _ (T301.setTop (mkF m 37 #[rv ad, iv xk.toInt32, iv 4, rv fr, rv tv, rv b301, iv 0, .unset] [(.ref fr)]))
      refine Go.st (fun _ => XS.iconst X301.here C.hx rfl (hb C.hby d3_37)) ?_
      show Go p e below s n0 _ _ _ (T301.setTop (mkF m 38 #[rv ad, iv xk.toInt32, iv 4, rv fr, rv tv, rv b301, iv 0, .unset] [(.int 1), (.ref fr)]))
      refine Go.iaload C X301 (AF_.ext E301) (by decide) rfl d3_38 ?_
      show Go p e below s n0 _ _ _ (T301.setTop (mkF m 39 #[rv ad, iv xk.toInt32, iv 4, rv fr, rv tv, rv b301, iv 0, .unset] [(.int g1.toInt32)]))
      refine Go.st (fun _ => XS.iloadN X301.here C.hx rfl (hb C.hby d3_39) rfl) ?_
      show Go p e below s n0 _ _ _ (T301.setTop (mkF m 40 #[rv ad, iv xk.toInt32, iv 4, rv fr, rv tv, rv b301, iv 0, .unset] [(.int xk.toInt32), (.int g1.toInt32)]))
      refine Go.icmp_ne C X301 (pc' := 55) d3_40 (by decide) (by decide) (fun hc40_305 => ?_) (fun hc40_305 => ?_)
      · show Go p e below s n0 _ _ _ (T301.setTop (mkF m 55 #[rv ad, iv xk.toInt32, iv 4, rv fr, rv tv, rv b301, iv 0, .unset] []))
        refine Go.st (fun _ => XS.iloadN X301.here C.hx rfl (hb C.hby d3_55) rfl) ?_
        show Go p e below s n0 _ _ _ (T301.setTop (mkF m 56 #[rv ad, iv xk.toInt32, iv 4, rv fr, rv tv, rv b301, iv 0, .unset] [(.int 4)]))
        refine Go.st (fun _ => XS.iconst X301.here C.hx rfl (hb C.hby d3_56)) ?_
        show Go p e below s n0 _ _ _ (T301.setTop (mkF m 57 #[rv ad, iv xk.toInt32, iv 4, rv fr, rv tv, rv b301, iv 0, .unset] [(.int 2), (.int 4)]))
        refine Go.icmp_le C X301 (pc' := 79) d3_57 (by decide) (by decide) (fun hc => absurd hc (by decide)) (fun _ => ?_)
        show Go p e below s n0 _ _ _ (T301.setTop (mkF m 60 #[rv ad, iv xk.toInt32, iv 4, rv fr, rv tv, rv b301, iv 0, .unset] []))
        refine Go.st (fun _ => XS.aloadN X301.here C.hx rfl (hb C.hby d3_60) rfl rfl) ?_
        show Go p e below s n0 _ _ _ (T301.setTop (mkF m 61 #[rv ad, iv xk.toInt32, iv 4, rv fr, rv tv, rv b301, iv 0, .unset] [(.ref fr)]))
        refine Go.st (fun _ => XS.iconst X301.here C.hx rfl (hb C.hby d3_61)) ?_
        show Go p e below s n0 _ _ _ (T301.setTop (mkF m 62 #[rv ad, iv xk.toInt32, iv 4, rv fr, rv tv, rv b301, iv 0, .unset] [(.int 2), (.ref fr)]))
        refine Go.iaload C X301 (AF_.ext E301) (by decide) rfl d3_62 ?_
        show Go p e below s n0 _ _ _ (T301.setTop (mkF m 63 #[rv ad, iv xk.toInt32, iv 4, rv fr, rv tv, rv b301, iv 0, .unset] [(.int g2.toInt32)]))
        refine Go.st (fun _ => XS.iloadN X301.here C.hx rfl (hb C.hby d3_63) rfl) ?_
        show Go p e below s n0 _ _ _ (T301.setTop (mkF m 64 #[rv ad, iv xk.toInt32, iv 4, rv fr, rv tv, rv b301, iv 0, .unset] [(.int xk.toInt32), (.int g2.toInt32)]))
        refine Go.icmp_ne C X301 (pc' := 79) d3_64 (by decide) (by decide) (fun hc64_307 => ?_) (fun hc64_307 => ?_)
        · show Go p e below s n0 _ _ _ (T301.setTop (mkF m 79 #[rv ad, iv xk.toInt32, iv 4, rv fr, rv tv, rv b301, iv 0, .unset] []))
          refine Go.st (fun _ => XS.iloadN X301.here C.hx rfl (hb C.hby d3_79) rfl) ?_
          show Go p e below s n0 _ _ _ (T301.setTop (mkF m 80 #[rv ad, iv xk.toInt32, iv 4, rv fr, rv tv, rv b301, iv 0, .unset] [(.int 4)]))
          refine Go.st (fun _ => XS.iconst X301.here C.hx rfl (hb C.hby d3_80)) ?_
          show Go p e below s n0 _ _ _ (T301.setTop (mkF m 81 #[rv ad, iv xk.toInt32, iv 4, rv fr, rv tv, rv b301, iv 0, .unset] [(.int 3), (.int 4)]))
          refine Go.icmp_le C X301 (pc' := 103) d3_81 (by decide) (by decide) (fun hc => absurd hc (by decide)) (fun _ => ?_)
          show Go p e below s n0 _ _ _ (T301.setTop (mkF m 84 #[rv ad, iv xk.toInt32, iv 4, rv fr, rv tv, rv b301, iv 0, .unset] []))
          refine Go.st (fun _ => XS.aloadN X301.here C.hx rfl (hb C.hby d3_84) rfl rfl) ?_
          show Go p e below s n0 _ _ _ (T301.setTop (mkF m 85 #[rv ad, iv xk.toInt32, iv 4, rv fr, rv tv, rv b301, iv 0, .unset] [(.ref fr)]))
          refine Go.st (fun _ => XS.iconst X301.here C.hx rfl (hb C.hby d3_85)) ?_
          show Go p e below s n0 _ _ _ (T301.setTop (mkF m 86 #[rv ad, iv xk.toInt32, iv 4, rv fr, rv tv, rv b301, iv 0, .unset] [(.int 3), (.ref fr)]))
          refine Go.iaload C X301 (AF_.ext E301) (by decide) rfl d3_86 ?_
          show Go p e below s n0 _ _ _ (T301.setTop (mkF m 87 #[rv ad, iv xk.toInt32, iv 4, rv fr, rv tv, rv b301, iv 0, .unset] [(.int g3.toInt32)]))
          refine Go.st (fun _ => XS.iloadN X301.here C.hx rfl (hb C.hby d3_87) rfl) ?_
          show Go p e below s n0 _ _ _ (T301.setTop (mkF m 88 #[rv ad, iv xk.toInt32, iv 4, rv fr, rv tv, rv b301, iv 0, .unset] [(.int xk.toInt32), (.int g3.toInt32)]))
          refine Go.icmp_ne C X301 (pc' := 103) d3_88 (by decide) (by decide) (fun hc88_309 => ?_) (fun hc88_309 => ?_)
          · have p0 := eq_false (fun u : xk = g0 => hc16_303 ((eqI (by omega) (by omega)).mpr u.symm))
            have p1 := eq_false (fun u : xk = g1 => hc40_305 ((eqI (by omega) (by omega)).mpr u.symm))
            have p2 := eq_false (fun u : xk = g2 => hc64_307 ((eqI (by omega) (by omega)).mpr u.symm))
            have p3 := eq_false (fun u : xk = g3 => hc88_309 ((eqI (by omega) (by omega)).mpr u.symm))
            have RL : rowP (fsF g0 g1 g2 g3) (tsF t0 t1 t2 t3) 4 4 xk = [] := by
              simp only [rowP, cnt, fsF0, tsF0, fsF1, tsF1, fsF2, tsF2, fsF3, tsF3, p0, p1, p2, p3, if_true, if_false]
              try rfl
            have AXX : AR Z h301 (rs xk) .int [] := by have u := (AX.ext E301); rw [RL] at u; exact u
            show Go p e below s n0 _ _ _ (T301.setTop (mkF m 103 #[rv ad, iv xk.toInt32, iv 4, rv fr, rv tv, rv b301, iv 0, .unset] []))
            refine Go.st (fun _ => XS.aloadN X301.here C.hx rfl (hb C.hby d3_103) rfl rfl) ?_
            show Go p e below s n0 _ _ _ (T301.setTop (mkF m 104 #[rv ad, iv xk.toInt32, iv 4, rv fr, rv tv, rv b301, iv 0, .unset] [(.ref ad)]))
            refine Go.st (fun _ => XS.iloadN X301.here C.hx rfl (hb C.hby d3_104) rfl) ?_
            show Go p e below s n0 _ _ _ (T301.setTop (mkF m 105 #[rv ad, iv xk.toInt32, iv 4, rv fr, rv tv, rv b301, iv 0, .unset] [(.int xk.toInt32), (.ref ad)]))
            refine Go.aaload C X301 ((O.ext E301)).ar rfl (nn32 (by omega)) (ou_get hc hx) d3_105 ?_
            show Go p e below s n0 _ _ _ (T301.setTop (mkF m 106 #[rv ad, iv xk.toInt32, iv 4, rv fr, rv tv, rv b301, iv 0, .unset] [(.ref (rs xk))]))
            refine Go.st (fun _ => XS.astore X301.here C.hx rfl (hb C.hby d3_106) rfl rfl (l' := #[rv ad, iv xk.toInt32, iv 4, rv fr, rv tv, rv b301, iv 0, rv (rs xk)]) rfl) ?_
            show Go p e below s n0 _ _ _ (T301.setTop (mkF m 108 #[rv ad, iv xk.toInt32, iv 4, rv fr, rv tv, rv b301, iv 0, rv (rs xk)] []))
            refine Go.st (fun _ => XS.aload X301.here C.hx rfl (hb C.hby d3_108) rfl rfl) ?_
            show Go p e below s n0 _ _ _ (T301.setTop (mkF m 110 #[rv ad, iv xk.toInt32, iv 4, rv fr, rv tv, rv b301, iv 0, rv (rs xk)] [(.ref (rs xk))]))
            refine Go.st (fun _ => XS.ifnullNo X301.here C.hx rfl (hb C.hby d3_110) rfl) ?_
            show Go p e below s n0 _ _ _ (T301.setTop (mkF m 113 #[rv ad, iv xk.toInt32, iv 4, rv fr, rv tv, rv b301, iv 0, rv (rs xk)] []))
            refine Go.st (fun _ => XS.aload X301.here C.hx rfl (hb C.hby d3_113) rfl rfl) ?_
            show Go p e below s n0 _ _ _ (T301.setTop (mkF m 115 #[rv ad, iv xk.toInt32, iv 4, rv fr, rv tv, rv b301, iv 0, rv (rs xk)] [(.ref (rs xk))]))
            refine Go.alen C X301 AXX (z := (0 : Int32)) rfl d3_115 ?_
            show Go p e below s n0 _ _ _ (T301.setTop (mkF m 116 #[rv ad, iv xk.toInt32, iv 4, rv fr, rv tv, rv b301, iv 0, rv (rs xk)] [(.int 0)]))
            refine Go.st (fun _ => XS.iload X301.here C.hx rfl (hb C.hby d3_116) rfl) ?_
            show Go p e below s n0 _ _ _ (T301.setTop (mkF m 118 #[rv ad, iv xk.toInt32, iv 4, rv fr, rv tv, rv b301, iv 0, rv (rs xk)] [(.int 0), (.int 0)]))
            refine Go.icmp_eq C X301 (pc' := 123) d3_118 (by decide) (by decide) (fun _ => ?_) (fun hc => absurd hc (by decide))
            show Go p e below s n0 _ _ _ (T301.setTop (mkF m 123 #[rv ad, iv xk.toInt32, iv 4, rv fr, rv tv, rv b301, iv 0, rv (rs xk)] []))
            refine Go.st (fun _ => XS.iload X301.here C.hx rfl (hb C.hby d3_123) rfl) ?_
            show Go p e below s n0 _ _ _ (T301.setTop (mkF m 125 #[rv ad, iv xk.toInt32, iv 4, rv fr, rv tv, rv b301, iv 0, rv (rs xk)] [(.int 0)]))
            refine Go.st (fun _ => XS.iconst X301.here C.hx rfl (hb C.hby d3_125)) ?_
            show Go p e below s n0 _ _ _ (T301.setTop (mkF m 126 #[rv ad, iv xk.toInt32, iv 4, rv fr, rv tv, rv b301, iv 0, rv (rs xk)] [(.int 1), (.int 0)]))
            refine Go.icmp_lt C X301 (pc' := 140) d3_126 (by decide) (by decide) (fun _ => ?_) (fun hc => absurd hc (by decide))
            show Go p e below s n0 _ _ _ (T301.setTop (mkF m 140 #[rv ad, iv xk.toInt32, iv 4, rv fr, rv tv, rv b301, iv 0, rv (rs xk)] []))
            refine Go.st (fun _ => XS.iload X301.here C.hx rfl (hb C.hby d3_140) rfl) ?_
            show Go p e below s n0 _ _ _ (T301.setTop (mkF m 142 #[rv ad, iv xk.toInt32, iv 4, rv fr, rv tv, rv b301, iv 0, rv (rs xk)] [(.int 0)]))
            refine Go.st (fun _ => XS.iconst X301.here C.hx rfl (hb C.hby d3_142)) ?_
            show Go p e below s n0 _ _ _ (T301.setTop (mkF m 143 #[rv ad, iv xk.toInt32, iv 4, rv fr, rv tv, rv b301, iv 0, rv (rs xk)] [(.int 2), (.int 0)]))
            refine Go.icmp_lt C X301 (pc' := 157) d3_143 (by decide) (by decide) (fun _ => ?_) (fun hc => absurd hc (by decide))
            show Go p e below s n0 _ _ _ (T301.setTop (mkF m 157 #[rv ad, iv xk.toInt32, iv 4, rv fr, rv tv, rv b301, iv 0, rv (rs xk)] []))
            refine Go.st (fun _ => XS.iload X301.here C.hx rfl (hb C.hby d3_157) rfl) ?_
            show Go p e below s n0 _ _ _ (T301.setTop (mkF m 159 #[rv ad, iv xk.toInt32, iv 4, rv fr, rv tv, rv b301, iv 0, rv (rs xk)] [(.int 0)]))
            refine Go.st (fun _ => XS.iconst X301.here C.hx rfl (hb C.hby d3_159)) ?_
            show Go p e below s n0 _ _ _ (T301.setTop (mkF m 160 #[rv ad, iv xk.toInt32, iv 4, rv fr, rv tv, rv b301, iv 0, rv (rs xk)] [(.int 3), (.int 0)]))
            refine Go.icmp_lt C X301 (pc' := 174) d3_160 (by decide) (by decide) (fun _ => ?_) (fun hc => absurd hc (by decide))
            show Go p e below s n0 _ _ _ (T301.setTop (mkF m 174 #[rv ad, iv xk.toInt32, iv 4, rv fr, rv tv, rv b301, iv 0, rv (rs xk)] []))
            refine Go.st (fun _ => XS.iload X301.here C.hx rfl (hb C.hby d3_174) rfl) ?_
            show Go p e below s n0 _ _ _ (T301.setTop (mkF m 176 #[rv ad, iv xk.toInt32, iv 4, rv fr, rv tv, rv b301, iv 0, rv (rs xk)] [(.int 0)]))
            refine Go.st (fun _ => XS.iconst X301.here C.hx rfl (hb C.hby d3_176)) ?_
            show Go p e below s n0 _ _ _ (T301.setTop (mkF m 177 #[rv ad, iv xk.toInt32, iv 4, rv fr, rv tv, rv b301, iv 0, rv (rs xk)] [(.int 4), (.int 0)]))
            refine Go.icmp_lt C X301 (pc' := 191) d3_177 (by decide) (by decide) (fun _ => ?_) (fun hc => absurd hc (by decide))
            show Go p e below s n0 _ _ _ (T301.setTop (mkF m 191 #[rv ad, iv xk.toInt32, iv 4, rv fr, rv tv, rv b301, iv 0, rv (rs xk)] []))
            refine Go.st (fun _ => XS.iconst X301.here C.hx rfl (hb C.hby d3_191)) ?_
            show Go p e below s n0 _ _ _ (T301.setTop (mkF m 192 #[rv ad, iv xk.toInt32, iv 4, rv fr, rv tv, rv b301, iv 0, rv (rs xk)] [(.int 1)]))
            refine Go.st (fun _ => XS.goto X301.here C.hx rfl (pc0 := 192) (pc' := 196) rfl (hb C.hby d3_192) (by decide) (by decide)) ?_
            show Go p e below s n0 _ _ _ (T301.setTop (mkF m 196 #[rv ad, iv xk.toInt32, iv 4, rv fr, rv tv, rv b301, iv 0, rv (rs xk)] [(.int 1)]))
            exact Go.retZ C X301 (by decide) d3_196 ⟨rfl, K301⟩ (by decide) (by decide)
          · show Go p e below s n0 _ _ _ (T301.setTop (mkF m 91 #[rv ad, iv xk.toInt32, iv 4, rv fr, rv tv, rv b301, iv 0, .unset] []))
            refine Go.st (fun _ => XS.aload X301.here C.hx rfl (hb C.hby d3_91) rfl rfl) ?_
            show Go p e below s n0 _ _ _ (T301.setTop (mkF m 93 #[rv ad, iv xk.toInt32, iv 4, rv fr, rv tv, rv b301, iv 0, .unset] [(.ref b301)]))
            refine Go.st (fun _ => XS.iload X301.here C.hx rfl (hb C.hby d3_93) rfl) ?_
            show Go p e below s n0 _ _ _ (T301.setTop (mkF m 95 #[rv ad, iv xk.toInt32, iv 4, rv fr, rv tv, rv b301, iv 0, .unset] [(.int 0), (.ref b301)]))
            refine Go.st (fun _ => XS.aload X301.here C.hx rfl (hb C.hby d3_95) rfl rfl) ?_
            show Go p e below s n0 _ _ _ (T301.setTop (mkF m 97 #[rv ad, iv xk.toInt32, iv 4, rv fr, rv tv, rv b301, iv 0, .unset] [(.ref tv), (.int 0), (.ref b301)]))
            refine Go.st (fun _ => XS.iconst X301.here C.hx rfl (hb C.hby d3_97)) ?_
            show Go p e below s n0 _ _ _ (T301.setTop (mkF m 98 #[rv ad, iv xk.toInt32, iv 4, rv fr, rv tv, rv b301, iv 0, .unset] [(.int 3), (.ref tv), (.int 0), (.ref b301)]))
            refine Go.iaload C X301 (AT_.ext E301) (by decide) rfl d3_98 ?_
            show Go p e below s n0 _ _ _ (T301.setTop (mkF m 99 #[rv ad, iv xk.toInt32, iv 4, rv fr, rv tv, rv b301, iv 0, .unset] [(.int t3), (.int 0), (.ref b301)]))
            refine Go.iastore C X301 A_b301 (by decide) (Nat.le_of_ble_eq_true rfl) ge301 d3_99 (fun T315 h315 X315 W315 A315 => ?_)
            have A_315 : AR Z h315 b301 .int [(.int t3), (.int 0), (.int 0), (.int 0)] := A315
            have AX_316 : AR Z h315 (rs xk) .int ((rowP (fsF g0 g1 g2 g3) (tsF t0 t1 t2 t3) 4 4 xk).map Value.int) := ((AX.ext E301).other W315 ne__rs_xk__b301)
            have K315 : Keep h0 h315 [] := K301.wr W315 (Or.inr old_b301)
            show Go p e below s n0 _ _ _ (T315.setTop (mkF m 100 #[rv ad, iv xk.toInt32, iv 4, rv fr, rv tv, rv b301, iv 0, .unset] []))
            refine Go.st (fun _ => XS.iinc X315.here C.hx rfl (hb C.hby d3_100) rfl (l' := #[rv ad, iv xk.toInt32, iv 4, rv fr, rv tv, rv b301, iv 1, .unset]) rfl) ?_
            have p0 := eq_false (fun u : xk = g0 => hc16_303 ((eqI (by omega) (by omega)).mpr u.symm))
            have p1 := eq_false (fun u : xk = g1 => hc40_305 ((eqI (by omega) (by omega)).mpr u.symm))
            have p2 := eq_false (fun u : xk = g2 => hc64_307 ((eqI (by omega) (by omega)).mpr u.symm))
            have p3 := eq_true ((eqI (by omega) (by omega)).mp hc88_309).symm
            have RL : rowP (fsF g0 g1 g2 g3) (tsF t0 t1 t2 t3) 4 4 xk = [t3] := by
              simp only [rowP, cnt, fsF0, tsF0, fsF1, tsF1, fsF2, tsF2, fsF3, tsF3, p0, p1, p2, p3, if_true, if_false]
              try rfl
            have AXX : AR Z h315 (rs xk) .int [(.int t3)] := by have u := AX_316; rw [RL] at u; exact u
            show Go p e below s n0 _ _ _ (T315.setTop (mkF m 103 #[rv ad, iv xk.toInt32, iv 4, rv fr, rv tv, rv b301, iv 1, .unset] []))
            refine Go.st (fun _ => XS.aloadN X315.here C.hx rfl (hb C.hby d3_103) rfl rfl) ?_
            show Go p e below s n0 _ _ _ (T315.setTop (mkF m 104 #[rv ad, iv xk.toInt32, iv 4, rv fr, rv tv, rv b301, iv 1, .unset] [(.ref ad)]))
            refine Go.st (fun _ => XS.iloadN X315.here C.hx rfl (hb C.hby d3_104) rfl) ?_
            show Go p e below s n0 _ _ _ (T315.setTop (mkF m 105 #[rv ad, iv xk.toInt32, iv 4, rv fr, rv tv, rv b301, iv 1, .unset] [(.int xk.toInt32), (.ref ad)]))
            refine Go.aaload C X315 (((O.ext E301).other W315 ne_ad_b301)).ar rfl (nn32 (by omega)) (ou_get hc hx) d3_105 ?_
            show Go p e below s n0 _ _ _ (T315.setTop (mkF m 106 #[rv ad, iv xk.toInt32, iv 4, rv fr, rv tv, rv b301, iv 1, .unset] [(.ref (rs xk))]))
            refine Go.st (fun _ => XS.astore X315.here C.hx rfl (hb C.hby d3_106) rfl rfl (l' := #[rv ad, iv xk.toInt32, iv 4, rv fr, rv tv, rv b301, iv 1, rv (rs xk)]) rfl) ?_
            show Go p e below s n0 _ _ _ (T315.setTop (mkF m 108 #[rv ad, iv xk.toInt32, iv 4, rv fr, rv tv, rv b301, iv 1, rv (rs xk)] []))
            refine Go.st (fun _ => XS.aload X315.here C.hx rfl (hb C.hby d3_108) rfl rfl) ?_
            show Go p e below s n0 _ _ _ (T315.setTop (mkF m 110 #[rv ad, iv xk.toInt32, iv 4, rv fr, rv tv, rv b301, iv 1, rv (rs xk)] [(.ref (rs xk))]))
            refine Go.st (fun _ => XS.ifnullNo X315.here C.hx rfl (hb C.hby d3_110) rfl) ?_
            show Go p e below s n0 _ _ _ (T315.setTop (mkF m 113 #[rv ad, iv xk.toInt32, iv 4, rv fr, rv tv, rv b301, iv 1, rv (rs xk)] []))
            refine Go.st (fun _ => XS.aload X315.here C.hx rfl (hb C.hby d3_113) rfl rfl) ?_
            show Go p e below s n0 _ _ _ (T315.setTop (mkF m 115 #[rv ad, iv xk.toInt32, iv 4, rv fr, rv tv, rv b301, iv 1, rv (rs xk)] [(.ref (rs xk))]))
            refine Go.alen C X315 AXX (z := (1 : Int32)) rfl d3_115 ?_
            show Go p e below s n0 _ _ _ (T315.setTop (mkF m 116 #[rv ad, iv xk.toInt32, iv 4, rv fr, rv tv, rv b301, iv 1, rv (rs xk)] [(.int 1)]))
            refine Go.st (fun _ => XS.iload X315.here C.hx rfl (hb C.hby d3_116) rfl) ?_
            show Go p e below s n0 _ _ _ (T315.setTop (mkF m 118 #[rv ad, iv xk.toInt32, iv 4, rv fr, rv tv, rv b301, iv 1, rv (rs xk)] [(.int 1), (.int 1)]))
            refine Go.icmp_eq C X315 (pc' := 123) d3_118 (by decide) (by decide) (fun _ => ?_) (fun hc => absurd hc (by decide))
            show Go p e below s n0 _ _ _ (T315.setTop (mkF m 123 #[rv ad, iv xk.toInt32, iv 4, rv fr, rv tv, rv b301, iv 1, rv (rs xk)] []))
            refine Go.st (fun _ => XS.iload X315.here C.hx rfl (hb C.hby d3_123) rfl) ?_
            show Go p e below s n0 _ _ _ (T315.setTop (mkF m 125 #[rv ad, iv xk.toInt32, iv 4, rv fr, rv tv, rv b301, iv 1, rv (rs xk)] [(.int 1)]))
            refine Go.st (fun _ => XS.iconst X315.here C.hx rfl (hb C.hby d3_125)) ?_
            show Go p e below s n0 _ _ _ (T315.setTop (mkF m 126 #[rv ad, iv xk.toInt32, iv 4, rv fr, rv tv, rv b301, iv 1, rv (rs xk)] [(.int 1), (.int 1)]))
            refine Go.icmp_lt C X315 (pc' := 140) d3_126 (by decide) (by decide) (fun hc => absurd hc (by decide)) (fun _ => ?_)
            show Go p e below s n0 _ _ _ (T315.setTop (mkF m 129 #[rv ad, iv xk.toInt32, iv 4, rv fr, rv tv, rv b301, iv 1, rv (rs xk)] []))
            refine Go.st (fun _ => XS.aload X315.here C.hx rfl (hb C.hby d3_129) rfl rfl) ?_
            show Go p e below s n0 _ _ _ (T315.setTop (mkF m 131 #[rv ad, iv xk.toInt32, iv 4, rv fr, rv tv, rv b301, iv 1, rv (rs xk)] [(.ref (rs xk))]))
            refine Go.st (fun _ => XS.iconst X315.here C.hx rfl (hb C.hby d3_131)) ?_
            show Go p e below s n0 _ _ _ (T315.setTop (mkF m 132 #[rv ad, iv xk.toInt32, iv 4, rv fr, rv tv, rv b301, iv 1, rv (rs xk)] [(.int 0), (.ref (rs xk))]))
            refine Go.iaload C X315 AXX (by decide) rfl d3_132 ?_
            show Go p e below s n0 _ _ _ (T315.setTop (mkF m 133 #[rv ad, iv xk.toInt32, iv 4, rv fr, rv tv, rv b301, iv 1, rv (rs xk)] [(.int t3)]))
            refine Go.st (fun _ => XS.aload X315.here C.hx rfl (hb C.hby d3_133) rfl rfl) ?_
            show Go p e below s n0 _ _ _ (T315.setTop (mkF m 135 #[rv ad, iv xk.toInt32, iv 4, rv fr, rv tv, rv b301, iv 1, rv (rs xk)] [(.ref b301), (.int t3)]))
            refine Go.st (fun _ => XS.iconst X315.here C.hx rfl (hb C.hby d3_135)) ?_
            show Go p e below s n0 _ _ _ (T315.setTop (mkF m 136 #[rv ad, iv xk.toInt32, iv 4, rv fr, rv tv, rv b301, iv 1, rv (rs xk)] [(.int 0), (.ref b301), (.int t3)]))
            refine Go.iaload C X315 A_315 (by decide) rfl d3_136 ?_
            show Go p e below s n0 _ _ _ (T315.setTop (mkF m 137 #[rv ad, iv xk.toInt32, iv 4, rv fr, rv tv, rv b301, iv 1, rv (rs xk)] [(.int t3), (.int t3)]))
            refine Go.icmp_ne C X315 (pc' := 195) d3_137 (by decide) (by decide) (fun hc => by first | exact absurd hc rfl | exact absurd rfl hc) (fun _ => ?_)
            show Go p e below s n0 _ _ _ (T315.setTop (mkF m 140 #[rv ad, iv xk.toInt32, iv 4, rv fr, rv tv, rv b301, iv 1, rv (rs xk)] []))
            refine Go.st (fun _ => XS.iload X315.here C.hx rfl (hb C.hby d3_140) rfl) ?_
            show Go p e below s n0 _ _ _ (T315.setTop (mkF m 142 #[rv ad, iv xk.toInt32, iv 4, rv fr, rv tv, rv b301, iv 1, rv (rs xk)] [(.int 1)]))
            refine Go.st (fun _ => XS.iconst X315.here C.hx rfl (hb C.hby d3_142)) ?_
            show Go p e below s n0 _ _ _ (T315.setTop (mkF m 143 #[rv ad, iv xk.toInt32, iv 4, rv fr, rv tv, rv b301, iv 1, rv (rs xk)] [(.int 2), (.int 1)]))
            refine Go.icmp_lt C X315 (pc' := 157) d3_143 (by decide) (by decide) (fun _ => ?_) (fun hc => absurd hc (by decide))
            show Go p e below s n0 _ _ _ (T315.setTop (mkF m 157 #[rv ad, iv xk.toInt32, iv 4, rv fr, rv tv, rv b301, iv 1, rv (rs xk)] []))
            refine Go.st (fun _ => XS.iload X315.here C.hx rfl (hb C.hby d3_157) rfl) ?_
            show Go p e below s n0 _ _ _ (T315.setTop (mkF m 159 #[rv ad, iv xk.toInt32, iv 4, rv fr, rv tv, rv b301, iv 1, rv (rs xk)] [(.int 1)]))
            refine Go.st (fun _ => XS.iconst X315.here C.hx rfl (hb C.hby d3_159)) ?_
            show Go p e below s n0 _ _ _ (T315.setTop (mkF m 160 #[rv ad, iv xk.toInt32, iv 4, rv fr, rv tv, rv b301, iv 1, rv (rs xk)] [(.int 3), (.int 1)]))
            refine Go.icmp_lt C X315 (pc' := 174) d3_160 (by decide) (by decide) (fun _ => ?_) (fun hc => absurd hc (by decide))
            show Go p e below s n0 _ _ _ (T315.setTop (mkF m 174 #[rv ad, iv xk.toInt32, iv 4, rv fr, rv tv, rv b301, iv 1, rv (rs xk)] []))
            refine Go.st (fun _ => XS.iload X315.here C.hx rfl (hb C.hby d3_174) rfl) ?_
            show Go p e below s n0 _ _ _ (T315.setTop (mkF m 176 #[rv ad, iv xk.toInt32, iv 4, rv fr, rv tv, rv b301, iv 1, rv (rs xk)] [(.int 1)]))
            refine Go.st (fun _ => XS.iconst X315.here C.hx rfl (hb C.hby d3_176)) ?_
            show Go p e below s n0 _ _ _ (T315.setTop (mkF m 177 #[rv ad, iv xk.toInt32, iv 4, rv fr, rv tv, rv b301, iv 1, rv (rs xk)] [(.int 4), (.int 1)]))
            refine Go.icmp_lt C X315 (pc' := 191) d3_177 (by decide) (by decide) (fun _ => ?_) (fun hc => absurd hc (by decide))
            show Go p e below s n0 _ _ _ (T315.setTop (mkF m 191 #[rv ad, iv xk.toInt32, iv 4, rv fr, rv tv, rv b301, iv 1, rv (rs xk)] []))
            refine Go.st (fun _ => XS.iconst X315.here C.hx rfl (hb C.hby d3_191)) ?_
            show Go p e below s n0 _ _ _ (T315.setTop (mkF m 192 #[rv ad, iv xk.toInt32, iv 4, rv fr, rv tv, rv b301, iv 1, rv (rs xk)] [(.int 1)]))
            refine Go.st (fun _ => XS.goto X315.here C.hx rfl (pc0 := 192) (pc' := 196) rfl (hb C.hby d3_192) (by decide) (by decide)) ?_
            show Go p e below s n0 _ _ _ (T315.setTop (mkF m 196 #[rv ad, iv xk.toInt32, iv 4, rv fr, rv tv, rv b301, iv 1, rv (rs xk)] [(.int 1)]))
            exact Go.retZ C X315 (by decide) d3_196 ⟨rfl, K315⟩ (by decide) (by decide)
        · show Go p e below s n0 _ _ _ (T301.setTop (mkF m 67 #[rv ad, iv xk.toInt32, iv 4, rv fr, rv tv, rv b301, iv 0, .unset] []))
          refine Go.st (fun _ => XS.aload X301.here C.hx rfl (hb C.hby d3_67) rfl rfl) ?_
          show Go p e below s n0 _ _ _ (T301.setTop (mkF m 69 #[rv ad, iv xk.toInt32, iv 4, rv fr, rv tv, rv b301, iv 0, .unset] [(.ref b301)]))
          refine Go.st (fun _ => XS.iload X301.here C.hx rfl (hb C.hby d3_69) rfl) ?_
          show Go p e below s n0 _ _ _ (T301.setTop (mkF m 71 #[rv ad, iv xk.toInt32, iv 4, rv fr, rv tv, rv b301, iv 0, .unset] [(.int 0), (.ref b301)]))
          refine Go.st (fun _ => XS.aload X301.here C.hx rfl (hb C.hby d3_71) rfl rfl) ?_
          show Go p e below s n0 _ _ _ (T301.setTop (mkF m 73 #[rv ad, iv xk.toInt32, iv 4, rv fr, rv tv, rv b301, iv 0, .unset] [(.ref tv), (.int 0), (.ref b301)]))
          refine Go.st (fun _ => XS.iconst X301.here C.hx rfl (hb C.hby d3_73)) ?_
          show Go p e below s n0 _ _ _ (T301.setTop (mkF m 74 #[rv ad, iv xk.toInt32, iv 4, rv fr, rv tv, rv b301, iv 0, .unset] [(.int 2), (.ref tv), (.int 0), (.ref b301)]))
          refine Go.iaload C X301 (AT_.ext E301) (by decide) rfl d3_74 ?_
          show Go p e below s n0 _ _ _ (T301.setTop (mkF m 75 #[rv ad, iv xk.toInt32, iv 4, rv fr, rv tv, rv b301, iv 0, .unset] [(.int t2), (.int 0), (.ref b301)]))
          refine Go.iastore C X301 A_b301 (by decide) (Nat.le_of_ble_eq_true rfl) ge301 d3_75 (fun T323 h323 X323 W323 A323 => ?_)
          have A_323 : AR Z h323 b301 .int [(.int t2), (.int 0), (.int 0), (.int 0)] := A323
          have AX_324 : AR Z h323 (rs xk) .int ((rowP (fsF g0 g1 g2 g3) (tsF t0 t1 t2 t3) 4 4 xk).map Value.int) := ((AX.ext E301).other W323 ne__rs_xk__b301)
          have K323 : Keep h0 h323 [] := K301.wr W323 (Or.inr old_b301)
          show Go p e below s n0 _ _ _ (T323.setTop (mkF m 76 #[rv ad, iv xk.toInt32, iv 4, rv fr, rv tv, rv b301, iv 0, .unset] []))
          refine Go.st (fun _ => XS.iinc X323.here C.hx rfl (hb C.hby d3_76) rfl (l' := #[rv ad, iv xk.toInt32, iv 4, rv fr, rv tv, rv b301, iv 1, .unset]) rfl) ?_
          show Go p e below s n0 _ _ _ (T323.setTop (mkF m 79 #[rv ad, iv xk.toInt32, iv 4, rv fr, rv tv, rv b301, iv 1, .unset] []))
          refine Go.st (fun _ => XS.iloadN X323.here C.hx rfl (hb C.hby d3_79) rfl) ?_
          show Go p e below s n0 _ _ _ (T323.setTop (mkF m 80 #[rv ad, iv xk.toInt32, iv 4, rv fr, rv tv, rv b301, iv 1, .unset] [(.int 4)]))
          refine Go.st (fun _ => XS.iconst X323.here C.hx rfl (hb C.hby d3_80)) ?_
          show Go p e below s n0 _ _ _ (T323.setTop (mkF m 81 #[rv ad, iv xk.toInt32, iv 4, rv fr, rv tv, rv b301, iv 1, .unset] [(.int 3), (.int 4)]))
          refine Go.icmp_le C X323 (pc' := 103) d3_81 (by decide) (by decide) (fun hc => absurd hc (by decide)) (fun _ => ?_)
          show Go p e below s n0 _ _ _ (T323.setTop (mkF m 84 #[rv ad, iv xk.toInt32, iv 4, rv fr, rv tv, rv b301, iv 1, .unset] []))
          refine Go.st (fun _ => XS.aloadN X323.here C.hx rfl (hb C.hby d3_84) rfl rfl) ?_
          show Go p e below s n0 _ _ _ (T323.setTop (mkF m 85 #[rv ad, iv xk.toInt32, iv 4, rv fr, rv tv, rv b301, iv 1, .unset] [(.ref fr)]))
          refine Go.st (fun _ => XS.iconst X323.here C.hx rfl (hb C.hby d3_85)) ?_
          show Go p e below s n0 _ _ _ (T323.setTop (mkF m 86 #[rv ad, iv xk.toInt32, iv 4, rv fr, rv tv, rv b301, iv 1, .unset] [(.int 3), (.ref fr)]))
          refine Go.iaload C X323 ((AF_.ext E301).other W323 ne_fr_b301) (by decide) rfl d3_86 ?_
          show Go p e below s n0 _ _ _ (T323.setTop (mkF m 87 #[rv ad, iv xk.toInt32, iv 4, rv fr, rv tv, rv b301, iv 1, .unset] [(.int g3.toInt32)]))
          refine Go.st (fun _ => XS.iloadN X323.here C.hx rfl (hb C.hby d3_87) rfl) ?_
          show Go p e below s n0 _ _ _ (T323.setTop (mkF m 88 #[rv ad, iv xk.toInt32, iv 4, rv fr, rv tv, rv b301, iv 1, .unset] [(.int xk.toInt32), (.int g3.toInt32)]))
          refine Go.icmp_ne C X323 (pc' := 103) d3_88 (by decide) (by decide) (fun hc88_326 => ?_) (fun hc88_326 => ?_)
          · have p0 := eq_false (fun u : xk = g0 => hc16_303 ((eqI (by omega) (by omega)).mpr u.symm))
            have p1 := eq_false (fun u : xk = g1 => hc40_305 ((eqI (by omega) (by omega)).mpr u.symm))
            have p2 := eq_true ((eqI (by omega) (by omega)).mp hc64_307).symm
            have p3 := eq_false (fun u : xk = g3 => hc88_326 ((eqI (by omega) (by omega)).mpr u.symm))
            have RL : rowP (fsF g0 g1 g2 g3) (tsF t0 t1 t2 t3) 4 4 xk = [t2] := by
              simp only [rowP, cnt, fsF0, tsF0, fsF1, tsF1, fsF2, tsF2, fsF3, tsF3, p0, p1, p2, p3, if_true, if_false]
              try rfl
            have AXX : AR Z h323 (rs xk) .int [(.int t2)] := by have u := AX_324; rw [RL] at u; exact u
            show Go p e below s n0 _ _ _ (T323.setTop (mkF m 103 #[rv ad, iv xk.toInt32, iv 4, rv fr, rv tv, rv b301, iv 1, .unset] []))
            refine Go.st (fun _ => XS.aloadN X323.here C.hx rfl (hb C.hby d3_103) rfl rfl) ?_
            show Go p e below s n0 _ _ _ (T323.setTop (mkF m 104 #[rv ad, iv xk.toInt32, iv 4, rv fr, rv tv, rv b301, iv 1, .unset] [(.ref ad)]))
            refine Go.st (fun _ => XS.iloadN X323.here C.hx rfl (hb C.hby d3_104) rfl) ?_
            show Go p e below s n0 _ _ _ (T323.setTop (mkF m 105 #[rv ad, iv xk.toInt32, iv 4, rv fr, rv tv, rv b301, iv 1, .unset] [(.int xk.toInt32), (.ref ad)]))
            refine Go.aaload C X323 (((O.ext E301).other W323 ne_ad_b301)).ar rfl (nn32 (by omega)) (ou_get hc hx) d3_105 ?_
            show Go p e below s n0 _ _ _ (T323.setTop (mkF m 106 #[rv ad, iv xk.toInt32, iv 4, rv fr, rv tv, rv b301, iv 1, .unset] [(.ref (rs xk))]))
            refine Go.st (fun _ => XS.astore X323.here C.hx rfl (hb C.hby d3_106) rfl rfl (l' := #[rv ad, iv xk.toInt32, iv 4, rv fr, rv tv, rv b301, iv 1, rv (rs xk)]) rfl) ?_
            show Go p e below s n0 _ _ _ (T323.setTop (mkF m 108 #[rv ad, iv xk.toInt32, iv 4, rv fr, rv tv, rv b301, iv 1, rv (rs xk)] []))
            refine Go.st (fun _ => XS.aload X323.here C.hx rfl (hb C.hby d3_108) rfl rfl) ?_
            show Go p e below s n0 _ _ _ (T323.setTop (mkF m 110 #[rv ad, iv xk.toInt32, iv 4, rv fr, rv tv, rv b301, iv 1, rv (rs xk)] [(.ref (rs xk))]))
            refine Go.st (fun _ => XS.ifnullNo X323.here C.hx rfl (hb C.hby d3_110) rfl) ?_
            show Go p e below s n0 _ _ _ (T323.setTop (mkF m 113 #[rv ad, iv xk.toInt32, iv 4, rv fr, rv tv, rv b301, iv 1, rv (rs xk)] []))
            refine Go.st (fun _ => XS.aload X323.here C.hx rfl (hb C.hby d3_113) rfl rfl) ?_
            show Go p e below s n0 _ _ _ (T323.setTop (mkF m 115 #[rv ad, iv xk.toInt32, iv 4, rv fr, rv tv, rv b301, iv 1, rv (rs xk)] [(.ref (rs xk))]))
            refine Go.alen C X323 AXX (z := (1 : Int32)) rfl d3_115 ?_
            show Go p e below s n0 _ _ _ (T323.setTop (mkF m 116 #[rv ad, iv xk.toInt32, iv 4, rv fr, rv tv, rv b301, iv 1, rv (rs xk)] [(.int 1)]))
            refine Go.st (fun _ => XS.iload X323.here C.hx rfl (hb C.hby d3_116) rfl) ?_
            show Go p e below s n0 _ _ _ (T323.setTop (mkF m 118 #[rv ad, iv xk.toInt32, iv 4, rv fr, rv tv, rv b301, iv 1, rv (rs xk)] [(.int 1), (.int 1)]))
            refine Go.icmp_eq C X323 (pc' := 123) d3_118 (by decide) (by decide) (fun _ => ?_) (fun hc => absurd hc (by decide))
            show Go p e below s n0 _ _ _ (T323.setTop (mkF m 123 #[rv ad, iv xk.toInt32, iv 4, rv fr, rv tv, rv b301, iv 1, rv (rs xk)] []))
            refine Go.st (fun _ => XS.iload X323.here C.hx rfl (hb C.hby d3_123) rfl) ?_
            show Go p e below s n0 _ _ _ (T323.setTop (mkF m 125 #[rv ad, iv xk.toInt32, iv 4, rv fr, rv tv, rv b301, iv 1, rv (rs xk)] [(.int 1)]))
            refine Go.st (fun _ => XS.iconst X323.here C.hx rfl (hb C.hby d3_125)) ?_
            show Go p e below s n0 _ _ _ (T323.setTop (mkF m 126 #[rv ad, iv xk.toInt32, iv 4, rv fr, rv tv, rv b301, iv 1, rv (rs xk)] [(.int 1), (.int 1)]))
            refine Go.icmp_lt C X323 (pc' := 140) d3_126 (by decide) (by decide) (fun hc => absurd hc (by decide)) (fun _ => ?_)
            show Go p e below s n0 _ _ _ (T323.setTop (mkF m 129 #[rv ad, iv xk.toInt32, iv 4, rv fr, rv tv, rv b301, iv 1, rv (rs xk)] []))
            refine Go.st (fun _ => XS.aload X323.here C.hx rfl (hb C.hby d3_129) rfl rfl) ?_
            show Go p e below s n0 _ _ _ (T323.setTop (mkF m 131 #[rv ad, iv xk.toInt32, iv 4, rv fr, rv tv, rv b301, iv 1, rv (rs xk)] [(.ref (rs xk))]))
            refine Go.st (fun _ => XS.iconst X323.here C.hx rfl (hb C.hby d3_131)) ?_
            show Go p e below s n0 _ _ _ (T323.setTop (mkF m 132 #[rv ad, iv xk.toInt32, iv 4, rv fr, rv tv, rv b301, iv 1, rv (rs xk)] [(.int 0), (.ref (rs xk))]))
            refine Go.iaload C X323 AXX (by decide) rfl d3_132 ?_
            show Go p e below s n0 _ _ _ (T323.setTop (mkF m 133 #[rv ad, iv xk.toInt32, iv 4, rv fr, rv tv, rv b301, iv 1, rv (rs xk)] [(.int t2)]))
            refine Go.st (fun _ => XS.aload X323.here C.hx rfl (hb C.hby d3_133) rfl rfl) ?_
            show Go p e below s n0 _ _ _ (T323.setTop (mkF m 135 #[rv ad, iv xk.toInt32, iv 4, rv fr, rv tv, rv b301, iv 1, rv (rs xk)] [(.ref b301), (.int t2)]))
            refine Go.st (fun _ => XS.iconst X323.here C.hx rfl (hb C.hby d3_135)) ?_
            show Go p e below s n0 _ _ _ (T323.setTop (mkF m 136 #[rv ad, iv xk.toInt32, iv 4, rv fr, rv tv, rv b301, iv 1, rv (rs xk)] [(.int 0), (.ref b301), (.int t2)]))
            refine Go.iaload C X323 A_323 (by decide) rfl d3_136 ?_
            show Go p e below s n0 _ _ _ (T323.setTop (mkF m 137 #[rv ad, iv xk.toInt32, iv 4, rv fr, rv tv, rv b301, iv 1, rv (rs xk)] [(.int t2), (.int t2)]))
            refine Go.icmp_ne C X323 (pc' := 195) d3_137 (by decide) (by decide) (fun hc => by first | exact absurd hc rfl | exact absurd rfl hc) (fun _ => ?_)
            show Go p e below s n0 _ _ _ (T323.setTop (mkF m 140 #[rv ad, iv xk.toInt32, iv 4, rv fr, rv tv, rv b301, iv 1, rv (rs xk)] []))
            refine Go.st (fun _ => XS.iload X323.here C.hx rfl (hb C.hby d3_140) rfl) ?_
            show Go p e below s n0 _ _ _ (T323.setTop (mkF m 142 #[rv ad, iv xk.toInt32, iv 4, rv fr, rv tv, rv b301, iv 1, rv (rs xk)] [(.int 1)]))
            refine Go.st (fun _ => XS.iconst X323.here C.hx rfl (hb C.hby d3_142)) ?_
            show Go p e below s n0 _ _ _ (T323.setTop (mkF m 143 #[rv ad, iv xk.toInt32, iv 4, rv fr, rv tv, rv b301, iv 1, rv (rs xk)] [(.int 2), (.int 1)]))
            refine Go.icmp_lt C X323 (pc' := 157) d3_143 (by decide) (by decide) (fun _ => ?_) (fun hc => absurd hc (by decide))
            show Go p e below s n0 _ _ _ (T323.setTop (mkF m 157 #[rv ad, iv xk.toInt32, iv 4, rv fr, rv tv, rv b301, iv 1, rv (rs xk)] []))
            refine Go.st (fun _ => XS.iload X323.here C.hx rfl (hb C.hby d3_157) rfl) ?_
            show Go p e below s n0 _ _ _ (T323.setTop (mkF m 159 #[rv ad, iv xk.toInt32, iv 4, rv fr, rv tv, rv b301, iv 1, rv (rs xk)] [(.int 1)]))
            refine Go.st (fun _ => XS.iconst X323.here C.hx rfl (hb C.hby d3_159)) ?_
            show Go p e below s n0 _ _ _ (T323.setTop (mkF m 160 #[rv ad, iv xk.toInt32, iv 4, rv fr, rv tv, rv b301, iv 1, rv (rs xk)] [(.int 3), (.int 1)]))
            refine Go.icmp_lt C X323 (pc' := 174) d3_160 (by decide) (by decide) (fun _ => ?_) (fun hc => absurd hc (by decide))
            show Go p e below s n0 _ _ _ (T323.setTop (mkF m 174 #[rv ad, iv xk.toInt32, iv 4, rv fr, rv tv, rv b301, iv 1, rv (rs xk)] []))
            refine Go.st (fun _ => XS.iload X323.here C.hx rfl (hb C.hby d3_174) rfl) ?_
            show Go p e below s n0 _ _ _ (T323.setTop (mkF m 176 #[rv ad, iv xk.toInt32, iv 4, rv fr, rv tv, rv b301, iv 1, rv (rs xk)] [(.int 1)]))
            refine Go.st (fun _ => XS.iconst X323.here C.hx rfl (hb C.hby d3_176)) ?_
            show Go p e below s n0 _ _ _ (T323.setTop (mkF m 177 #[rv ad, iv xk.toInt32, iv 4, rv fr, rv tv, rv b301, iv 1, rv (rs xk)] [(.int 4), (.int 1)]))
            refine Go.icmp_lt C X323 (pc' := 191) d3_177 (by decide) (by decide) (fun _ => ?_) (fun hc => absurd hc (by decide))
            show Go p e below s n0 _ _ _ (T323.setTop (mkF m 191 #[rv ad, iv xk.toInt32, iv 4, rv fr, rv tv, rv b301, iv 1, rv (rs xk)] []))
            refine Go.st (fun _ => XS.iconst X323.here C.hx rfl (hb C.hby d3_191)) ?_
            show Go p e below s n0 _ _ _ (T323.setTop (mkF m 192 #[rv ad, iv xk.toInt32, iv 4, rv fr, rv tv, rv b301, iv 1, rv (rs xk)] [(.int 1)]))
            refine Go.st (fun _ => XS.goto X323.here C.hx rfl (pc0 := 192) (pc' := 196) rfl (hb C.hby d3_192) (by decide) (by decide)) ?_
            show Go p e below s n0 _ _ _ (T323.setTop (mkF m 196 #[rv ad, iv xk.toInt32, iv 4, rv fr, rv tv, rv b301, iv 1, rv (rs xk)] [(.int 1)]))
            exact Go.retZ C X323 (by decide) d3_196 ⟨rfl, K323⟩ (by decide) (by decide)
          · show Go p e below s n0 _ _ _ (T323.setTop (mkF m 91 #[rv ad, iv xk.toInt32, iv 4, rv fr, rv tv, rv b301, iv 1, .unset] []))
            refine Go.st (fun _ => XS.aload X323.here C.hx rfl (hb C.hby d3_91) rfl rfl) ?_
            show Go p e below s n0 _ _ _ (T323.setTop (mkF m 93 #[rv ad, iv xk.toInt32, iv 4, rv fr, rv tv, rv b301, iv 1, .unset] [(.ref b301)]))
            refine Go.st (fun _ => XS.iload X323.here C.hx rfl (hb C.hby d3_93) rfl) ?_
            show Go p e below s n0 _ _ _ (T323.setTop (mkF m 95 #[rv ad, iv xk.toInt32, iv 4, rv fr, rv tv, rv b301, iv 1, .unset] [(.int 1), (.ref b301)]))
            refine Go.st (fun _ => XS.aload X323.here C.hx rfl (hb C.hby d3_95) rfl rfl) ?_
            show Go p e below s n0 _ _ _ (T323.setTop (mkF m 97 #[rv ad, iv xk.toInt32, iv 4, rv fr, rv tv, rv b301, iv 1, .unset] [(.ref tv), (.int 1), (.ref b301)]))
            refine Go.st (fun _ => XS.iconst X323.here C.hx rfl (hb C.hby d3_97)) ?_
            show Go p e below s n0 _ _ _ (T323.setTop (mkF m 98 #[rv ad, iv xk.toInt32, iv 4, rv fr, rv tv, rv b301, iv 1, .unset] [(.int 3), (.ref tv), (.int 1), (.ref b301)]))
            refine Go.iaload C X323 ((AT_.ext E301).other W323 ne_tv_b301) (by decide) rfl d3_98 ?_
            show Go p e below s n0 _ _ _ (T323.setTop (mkF m 99 #[rv ad, iv xk.toInt32, iv 4, rv fr, rv tv, rv b301, iv 1, .unset] [(.int t3), (.int 1), (.ref b301)]))
            refine Go.iastore C X323 A_323 (by decide) (Nat.le_of_ble_eq_true rfl) ge301 d3_99 (fun T333 h333 X333 W333 A333 => ?_)
            have A_333 : AR Z h333 b301 .int [(.int t2), (.int t3), (.int 0), (.int 0)] := A333
            have O_334 : AO Z h333 ad (ouV cc cc rs) := (((O.ext E301).other W323 ne_ad_b301).other W333 ne_ad_b301)
            have AF__335 : AR Z h333 fr .int [(.int g0.toInt32), (.int g1.toInt32), (.int g2.toInt32), (.int g3.toInt32)] := (((AF_.ext E301).other W323 ne_fr_b301).other W333 ne_fr_b301)
            have AT__336 : AR Z h333 tv .int [(.int t0), (.int t1), (.int t2), (.int t3)] := (((AT_.ext E301).other W323 ne_tv_b301).other W333 ne_tv_b301)
            have K333 : Keep h0 h333 [] := K323.wr W333 (Or.inr old_b301)
            show Go p e below s n0 _ _ _ (T333.setTop (mkF m 100 #[rv ad, iv xk.toInt32, iv 4, rv fr, rv tv, rv b301, iv 1, .unset] []))
            refine Go.st (fun _ => XS.iinc X333.here C.hx rfl (hb C.hby d3_100) rfl (l' := #[rv ad, iv xk.toInt32, iv 4, rv fr, rv tv, rv b301, iv 2, .unset]) rfl) ?_
            have p0 := eq_false (fun u : xk = g0 => hc16_303 ((eqI (by omega) (by omega)).mpr u.symm))
            have p1 := eq_false (fun u : xk = g1 => hc40_305 ((eqI (by omega) (by omega)).mpr u.symm))
            have p2 := eq_true ((eqI (by omega) (by omega)).mp hc64_307).symm
            have p3 := eq_true ((eqI (by omega) (by omega)).mp hc88_326).symm
            have RL : rowP (fsF g0 g1 g2 g3) (tsF t0 t1 t2 t3) 4 4 xk = [t2, t3] := by
              simp only [rowP, cnt, fsF0, tsF0, fsF1, tsF1, fsF2, tsF2, fsF3, tsF3, p0, p1, p2, p3, if_true, if_false]
              try rfl
            have AXX : AR Z h333 (rs xk) .int [(.int t2), (.int t3)] := by have u := (AX_324.other W333 ne__rs_xk__b301); rw [RL] at u; exact u
            show Go p e below s n0 _ _ _ (T333.setTop (mkF m 103 #[rv ad, iv xk.toInt32, iv 4, rv fr, rv tv, rv b301, iv 2, .unset] []))
            refine Go.st (fun _ => XS.aloadN X333.here C.hx rfl (hb C.hby d3_103) rfl rfl) ?_
            show Go p e below s n0 _ _ _ (T333.setTop (mkF m 104 #[rv ad, iv xk.toInt32, iv 4, rv fr, rv tv, rv b301, iv 2, .unset] [(.ref ad)]))
            refine Go.st (fun _ => XS.iloadN X333.here C.hx rfl (hb C.hby d3_104) rfl) ?_
            show Go p e below s n0 _ _ _ (T333.setTop (mkF m 105 #[rv ad, iv xk.toInt32, iv 4, rv fr, rv tv, rv b301, iv 2, .unset] [(.int xk.toInt32), (.ref ad)]))
            refine Go.aaload C X333 (O_334).ar rfl (nn32 (by omega)) (ou_get hc hx) d3_105 ?_
            show Go p e below s n0 _ _ _ (T333.setTop (mkF m 106 #[rv ad, iv xk.toInt32, iv 4, rv fr, rv tv, rv b301, iv 2, .unset] [(.ref (rs xk))]))
            refine Go.st (fun _ => XS.astore X333.here C.hx rfl (hb C.hby d3_106) rfl rfl (l' := #[rv ad, iv xk.toInt32, iv 4, rv fr, rv tv, rv b301, iv 2, rv (rs xk)]) rfl) ?_
            show Go p e below s n0 _ _ _ (T333.setTop (mkF m 108 #[rv ad, iv xk.toInt32, iv 4, rv fr, rv tv, rv b301, iv 2, rv (rs xk)] []))
            refine Go.st (fun _ => XS.aload X333.here C.hx rfl (hb C.hby d3_108) rfl rfl) ?_
            show Go p e below s n0 _ _ _ (T333.setTop (mkF m 110 #[rv ad, iv xk.toInt32, iv 4, rv fr, rv tv, rv b301, iv 2, rv (rs xk)] [(.ref (rs xk))]))
            refine Go.st (fun _ => XS.ifnullNo X333.here C.hx rfl (hb C.hby d3_110) rfl) ?_
            show Go p e below s n0 _ _ _ (T333.setTop (mkF m 113 #[rv ad, iv xk.toInt32, iv 4, rv fr, rv tv, rv b301, iv 2, rv (rs xk)] []))
            refine Go.st (fun _ => XS.aload X333.here C.hx rfl (hb C.hby d3_113) rfl rfl) ?_
            show Go p e below s n0 _ _ _ (T333.setTop (mkF m 115 #[rv ad, iv xk.toInt32, iv 4, rv fr, rv tv, rv b301, iv 2, rv (rs xk)] [(.ref (rs xk))]))
            refine Go.alen C X333 AXX (z := (2 : Int32)) rfl d3_115 ?_
            show Go p e below s n0 _ _ _ (T333.setTop (mkF m 116 #[rv ad, iv xk.toInt32, iv 4, rv fr, rv tv, rv b301, iv 2, rv (rs xk)] [(.int 2)]))
            refine Go.st (fun _ => XS.iload X333.here C.hx rfl (hb C.hby d3_116) rfl) ?_
            show Go p e below s n0 _ _ _ (T333.setTop (mkF m 118 #[rv ad, iv xk.toInt32, iv 4, rv fr, rv tv, rv b301, iv 2, rv (rs xk)] [(.int 2), (.int 2)]))
            refine Go.icmp_eq C X333 (pc' := 123) d3_118 (by decide) (by decide) (fun _ => ?_) (fun hc => absurd hc (by decide))
            show Go p e below s n0 _ _ _ (T333.setTop (mkF m 123 #[rv ad, iv xk.toInt32, iv 4, rv fr, rv tv, rv b301, iv 2, rv (rs xk)] []))
            refine Go.st (fun _ => XS.iload X333.here C.hx rfl (hb C.hby d3_123) rfl) ?_
            show Go p e below s n0 _ _ _ (T333.setTop (mkF m 125 #[rv ad, iv xk.toInt32, iv 4, rv fr, rv tv, rv b301, iv 2, rv (rs xk)] [(.int 2)]))
            refine Go.st (fun _ => XS.iconst X333.here C.hx rfl (hb C.hby d3_125)) ?_
            show Go p e below s n0 _ _ _ (T333.setTop (mkF m 126 #[rv ad, iv xk.toInt32, iv 4, rv fr, rv tv, rv b301, iv 2, rv (rs xk)] [(.int 1), (.int 2)]))
            refine Go.icmp_lt C X333 (pc' := 140) d3_126 (by decide) (by decide) (fun hc => absurd hc (by decide)) (fun _ => ?_)
            show Go p e below s n0 _ _ _ (T333.setTop (mkF m 129 #[rv ad, iv xk.toInt32, iv 4, rv fr, rv tv, rv b301, iv 2, rv (rs xk)] []))
            refine Go.st (fun _ => XS.aload X333.here C.hx rfl (hb C.hby d3_129) rfl rfl) ?_
            show Go p e below s n0 _ _ _ (T333.setTop (mkF m 131 #[rv ad, iv xk.toInt32, iv 4, rv fr, rv tv, rv b301, iv 2, rv (rs xk)] [(.ref (rs xk))]))
            refine Go.st (fun _ => XS.iconst X333.here C.hx rfl (hb C.hby d3_131)) ?_
            show Go p e below s n0 _ _ _ (T333.setTop (mkF m 132 #[rv ad, iv xk.toInt32, iv 4, rv fr, rv tv, rv b301, iv 2, rv (rs xk)] [(.int 0), (.ref (rs xk))]))
            refine Go.iaload C X333 AXX (by decide) rfl d3_132 ?_
            show Go p e below s n0 _ _ _ (T333.setTop (mkF m 133 #[rv ad, iv xk.toInt32, iv 4, rv fr, rv tv, rv b301, iv 2, rv (rs xk)] [(.int t2)]))
            refine Go.st (fun _ => XS.aload X333.here C.hx rfl (hb C.hby d3_133) rfl rfl) ?_
            show Go p e below s n0 _ _ _ (T333.setTop (mkF m 135 #[rv ad, iv xk.toInt32, iv 4, rv fr, rv tv, rv b301, iv 2, rv (rs xk)] [(.ref b301), (.int t2)]))
            refine Go.st (fun _ => XS.iconst X333.here C.hx rfl (hb C.hby d3_135)) ?_
            show Go p e below s n0 _ _ _ (T333.setTop (mkF m 136 #[rv ad, iv xk.toInt32, iv 4, rv fr, rv tv, rv b301, iv 2, rv (rs xk)] [(.int 0), (.ref b301), (.int t2)]))
            refine Go.iaload C X333 A_333 (by decide) rfl d3_136 ?_
            show Go p e below s n0 _ _ _ (T333.setTop (mkF m 137 #[rv ad, iv xk.toInt32, iv 4, rv fr, rv tv, rv b301, iv 2, rv (rs xk)] [(.int t2), (.int t2)]))
            refine Go.icmp_ne C X333 (pc' := 195) d3_137 (by decide) (by decide) (fun hc => by first | exact absurd hc rfl | exact absurd rfl hc) (fun _ => ?_)
            show Go p e below s n0 _ _ _ (T333.setTop (mkF m 140 #[rv ad, iv xk.toInt32, iv 4, rv fr, rv tv, rv b301, iv 2, rv (rs xk)] []))
            refine Go.st (fun _ => XS.iload X333.here C.hx rfl (hb C.hby d3_140) rfl) ?_
            show Go p e below s n0 _ _ _ (T333.setTop (mkF m 142 #[rv ad, iv xk.toInt32, iv 4, rv fr, rv tv, rv b301, iv 2, rv (rs xk)] [(.int 2)]))
            refine Go.st (fun _ => XS.iconst X333.here C.hx rfl (hb C.hby d3_142)) ?_
            show Go p e below s n0 _ _ _ (T333.setTop (mkF m 143 #[rv ad, iv xk.toInt32, iv 4, rv fr, rv tv, rv b301, iv 2, rv (rs xk)] [(.int 2), (.int 2)]))
            refine Go.icmp_lt C X333 (pc' := 157) d3_143 (by decide) (by decide) (fun hc => absurd hc (by decide)) (fun _ => ?_)
            show Go p e below s n0 _ _ _ (T333.setTop (mkF m 146 #[rv ad, iv xk.toInt32, iv 4, rv fr, rv tv, rv b301, iv 2, rv (rs xk)] []))
            refine Go.st (fun _ => XS.aload X333.here C.hx rfl (hb C.hby d3_146) rfl rfl) ?_
            show Go p e below s n0 _ _ _ (T333.setTop (mkF m 148 #[rv ad, iv xk.toInt32, iv 4, rv fr, rv tv, rv b301, iv 2, rv (rs xk)] [(.ref (rs xk))]))
            refine Go.st (fun _ => XS.iconst X333.here C.hx rfl (hb C.hby d3_148)) ?_
            show Go p e below s n0 _ _ _ (T333.setTop (mkF m 149 #[rv ad, iv xk.toInt32, iv 4, rv fr, rv tv, rv b301, iv 2, rv (rs xk)] [(.int 1), (.ref (rs xk))]))
            refine Go.iaload C X333 AXX (by decide) rfl d3_149 ?_
            show Go p e below s n0 _ _ _ (T333.setTop (mkF m 150 #[rv ad, iv xk.toInt32, iv 4, rv fr, rv tv, rv b301, iv 2, rv (rs xk)] [(.int t3)]))
            refine Go.st (fun _ => XS.aload X333.here C.hx rfl (hb C.hby d3_150) rfl rfl) ?_
            show Go p e below s n0 _ _ _ (T333.setTop (mkF m 152 #[rv ad, iv xk.toInt32, iv 4, rv fr, rv tv, rv b301, iv 2, rv (rs xk)] [(.ref b301), (.int t3)]))
            refine Go.st (fun _ => XS.iconst X333.here C.hx rfl (hb C.hby d3_152)) ?_
            show Go p e below s n0 _ _ _ (T333.setTop (mkF m 153 #[rv ad, iv xk.toInt32, iv 4, rv fr, rv tv, rv b301, iv 2, rv (rs xk)] [(.int 1), (.ref b301), (.int t3)]))
            refine Go.iaload C X333 A_333 (by decide) rfl d3_153 ?_
            show Go p e below s n0 _ _ _ (T333.setTop (mkF m 154 #[rv ad, iv xk.toInt32, iv 4, rv fr, rv tv, rv b301, iv 2, rv (rs xk)] [(.int t3), (.int t3)]))
            refine Go.icmp_ne C X333 (pc' := 195) d3_154 (by decide) (by decide) (fun hc => by first | exact absurd hc rfl | exact absurd rfl hc) (fun _ => ?_)
            show Go p e below s n0 _ _ _ (T333.setTop (mkF m 157 #[rv ad, iv xk.toInt32, iv 4, rv fr, rv tv, rv b301, iv 2, rv (rs xk)] []))
            refine Go.st (fun _ => XS.iload X333.here C.hx rfl (hb C.hby d3_157) rfl) ?_
            show Go p e below s n0 _ _ _ (T333.setTop (mkF m 159 #[rv ad, iv xk.toInt32, iv 4, rv fr, rv tv, rv b301, iv 2, rv (rs xk)] [(.int 2)]))
            refine Go.st (fun _ => XS.iconst X333.here C.hx rfl (hb C.hby d3_159)) ?_
            show Go p e below s n0 _ _ _ (T333.setTop (mkF m 160 #[rv ad, iv xk.toInt32, iv 4, rv fr, rv tv, rv b301, iv 2, rv (rs xk)] [(.int 3), (.int 2)]))
            refine Go.icmp_lt C X333 (pc' := 174) d3_160 (by decide) (by decide) (fun _ => ?_) (fun hc => absurd hc (by decide))
            show Go p e below s n0 _ _ _ (T333.setTop (mkF m 174 #[rv ad, iv xk.toInt32, iv 4, rv fr, rv tv, rv b301, iv 2, rv (rs xk)] []))
            refine Go.st (fun _ => XS.iload X333.here C.hx rfl (hb C.hby d3_174) rfl) ?_
            show Go p e below s n0 _ _ _ (T333.setTop (mkF m 176 #[rv ad, iv xk.toInt32, iv 4, rv fr, rv tv, rv b301, iv 2, rv (rs xk)] [(.int 2)]))
            refine Go.st (fun _ => XS.iconst X333.here C.hx rfl (hb C.hby d3_176)) ?_
            show Go p e below s n0 _ _ _ (T333.setTop (mkF m 177 #[rv ad, iv xk.toInt32, iv 4, rv fr, rv tv, rv b301, iv 2, rv (rs xk)] [(.int 4), (.int 2)]))
            refine Go.icmp_lt C X333 (pc' := 191) d3_177 (by decide) (by decide) (fun _ => ?_) (fun hc => absurd hc (by decide))
            show Go p e below s n0 _ _ _ (T333.setTop (mkF m 191 #[rv ad, iv xk.toInt32, iv 4, rv fr, rv tv, rv b301, iv 2, rv (rs xk)] []))
            refine Go.st (fun _ => XS.iconst X333.here C.hx rfl (hb C.hby d3_191)) ?_
            show Go p e below s n0 _ _ _ (T333.setTop (mkF m 192 #[rv ad, iv xk.toInt32, iv 4, rv fr, rv tv, rv b301, iv 2, rv (rs xk)] [(.int 1)]))
            refine Go.st (fun _ => XS.goto X333.here C.hx rfl (pc0 := 192) (pc' := 196) rfl (hb C.hby d3_192) (by decide) (by decide)) ?_
            show Go p e below s n0 _ _ _ (T333.setTop (mkF m 196 #[rv ad, iv xk.toInt32, iv 4, rv fr, rv tv, rv b301, iv 2, rv (rs xk)] [(.int 1)]))
            exact Go.retZ C X333 (by decide) d3_196 ⟨rfl, K333⟩ (by decide) (by decide)
      · show Go p e below s n0 _ _ _ (T301.setTop (mkF m 43 #[rv ad, iv xk.toInt32, iv 4, rv fr, rv tv, rv b301, iv 0, .unset] []))
        refine Go.st (fun _ => XS.aload X301.here C.hx rfl (hb C.hby d3_43) rfl rfl) ?_
        show Go p e below s n0 _ _ _ (T301.setTop (mkF m 45 #[rv ad, iv xk.toInt32, iv 4, rv fr, rv tv, rv b301, iv 0, .unset] [(.ref b301)]))
        refine Go.st (fun _ => XS.iload X301.here C.hx rfl (hb C.hby d3_45) rfl) ?_
        show Go p e below s n0 _ _ _ (T301.setTop (mkF m 47 #[rv ad, iv xk.toInt32, iv 4, rv fr, rv tv, rv b301, iv 0, .unset] [(.int 0), (.ref b301)]))
        refine Go.st (fun _ => XS.aload X301.here C.hx rfl (hb C.hby d3_47) rfl rfl) ?_
        show Go p e below s n0 _ _ _ (T301.setTop (mkF m 49 #[rv ad, iv xk.toInt32, iv 4, rv fr, rv tv, rv b301, iv 0, .unset] [(.ref tv), (.int 0), (.ref b301)]))
        refine Go.st (fun _ => XS.iconst X301.here C.hx rfl (hb C.hby d3_49)) ?_
        show Go p e below s n0 _ _ _ (T301.setTop (mkF m 50 #[rv ad, iv xk.toInt32, iv 4, rv fr, rv tv, rv b301, iv 0, .unset] [(.int 1), (.ref tv), (.int 0), (.ref b301)]))
        refine Go.iaload C X301 (AT_.ext E301) (by decide) rfl d3_50 ?_
        show Go p e below s n0 _ _ _ (T301.setTop (mkF m 51 #[rv ad, iv xk.toInt32, iv 4, rv fr, rv tv, rv b301, iv 0, .unset] [(.int t1), (.int 0), (.ref b301)]))
        refine Go.iastore C X301 A_b301 (by decide) (Nat.le_of_ble_eq_true rfl) ge301 d3_51 (fun T344 h344 X344 W344 A344 => ?_)
        have A_344 : AR Z h344 b301 .int [(.int t1), (.int 0), (.int 0), (.int 0)] := A344
        have AX_345 : AR Z h344 (rs xk) .int ((rowP (fsF g0 g1 g2 g3) (tsF t0 t1 t2 t3) 4 4 xk).map Value.int) := ((AX.ext E301).other W344 ne__rs_xk__b301)
        have K344 : Keep h0 h344 [] := K301.wr W344 (Or.inr old_b301)
        show Go p e below s n0 _ _ _ (T344.setTop (mkF m 52 #[rv ad, iv xk.toInt32, iv 4, rv fr, rv tv, rv b301, iv 0, .unset] []))
        refine Go.st (fun _ => XS.iinc X344.here C.hx rfl (hb C.hby d3_52) rfl (l' := #[rv ad, iv xk.toInt32, iv 4, rv fr, rv tv, rv b301, iv 1, .unset]) rfl) ?_
        show Go p e below s n0 _ _ _ (T344.setTop (mkF m 55 #[rv ad, iv xk.toInt32, iv 4, rv fr, rv tv, rv b301, iv 1, .unset] []))
        refine Go.st (fun _ => XS.iloadN X344.here C.hx rfl (hb C.hby d3_55) rfl) ?_
        show Go p e below s n0 _ _ _ (T344.setTop (mkF m 56 #[rv ad, iv xk.toInt32, iv 4, rv fr, rv tv, rv b301, iv 1, .unset] [(.int 4)]))
        refine Go.st (fun _ => XS.iconst X344.here C.hx rfl (hb C.hby d3_56)) ?_
        show Go p e below s n0 _ _ _ (T344.setTop (mkF m 57 #[rv ad, iv xk.toInt32, iv 4, rv fr, rv tv, rv b301, iv 1, .unset] [(.int 2), (.int 4)]))
        refine Go.icmp_le C X344 (pc' := 79) d3_57 (by decide) (by decide) (fun hc => absurd hc (by decide)) (fun _ => ?_)
        show Go p e below s n0 _ _ _ (T344.setTop (mkF m 60 #[rv ad, iv xk.toInt32, iv 4, rv fr, rv tv, rv b301, iv 1, .unset] []))
        refine Go.st (fun _ => XS.aloadN X344.here C.hx rfl (hb C.hby d3_60) rfl rfl) ?_
        show Go p e below s n0 _ _ _ (T344.setTop (mkF m 61 #[rv ad, iv xk.toInt32, iv 4, rv fr, rv tv, rv b301, iv 1, .unset] [(.ref fr)]))
        refine Go.st (fun _ => XS.iconst X344.here C.hx rfl (hb C.hby d3_61)) ?_
        show Go p e below s n0 _ _ _ (T344.setTop (mkF m 62 #[rv ad, iv xk.toInt32, iv 4, rv fr, rv tv, rv b301, iv 1, .unset] [(.int 2), (.ref fr)]))
        refine Go.iaload C X344 ((AF_.ext E301).other W344 ne_fr_b301) (by decide) rfl d3_62 ?_
        show Go p e below s n0 _ _ _ (T344.setTop (mkF m 63 #[rv ad, iv xk.toInt32, iv 4, rv fr, rv tv, rv b301, iv 1, .unset] [(.int g2.toInt32)]))
        refine Go.st (fun _ => XS.iloadN X344.here C.hx rfl (hb C.hby d3_63) rfl) ?_
        show Go p e below s n0 _ _ _ (T344.setTop (mkF m 64 #[rv ad, iv xk.toInt32, iv 4, rv fr, rv tv, rv b301, iv 1, .unset] [(.int xk.toInt32), (.int g2.toInt32)]))
        refine Go.icmp_ne C X344 (pc' := 79) d3_64 (by decide) (by decide) (fun hc64_347 => ?_) (fun hc64_347 => ?_)
        · show Go p e below s n0 _ _ _ (T344.setTop (mkF m 79 #[rv ad, iv xk.toInt32, iv 4, rv fr, rv tv, rv b301, iv 1, .unset] []))
          refine Go.st (fun _ => XS.iloadN X344.here C.hx rfl (hb C.hby d3_79) rfl) ?_
          show Go p e below s n0 _ _ _ (T344.setTop (mkF m 80 #[rv ad, iv xk.toInt32, iv 4, rv fr, rv tv, rv b301, iv 1, .unset] [(.int 4)]))
          refine Go.st (fun _ => XS.iconst X344.here C.hx rfl (hb C.hby d3_80)) ?_
          show Go p e below s n0 _ _ _ (T344.setTop (mkF m 81 #[rv ad, iv xk.toInt32, iv 4, rv fr, rv tv, rv b301, iv 1, .unset] [(.int 3), (.int 4)]))
          refine Go.icmp_le C X344 (pc' := 103) d3_81 (by decide) (by decide) (fun hc => absurd hc (by decide)) (fun _ => ?_)
          show Go p e below s n0 _ _ _ (T344.setTop (mkF m 84 #[rv ad, iv xk.toInt32, iv 4, rv fr, rv tv, rv b301, iv 1, .unset] []))
          refine Go.st (fun _ => XS.aloadN X344.here C.hx rfl (hb C.hby d3_84) rfl rfl) ?_
          show Go p e below s n0 _ _ _ (T344.setTop (mkF m 85 #[rv ad, iv xk.toInt32, iv 4, rv fr, rv tv, rv b301, iv 1, .unset] [(.ref fr)]))
          refine Go.st (fun _ => XS.iconst X344.here C.hx rfl (hb C.hby d3_85)) ?_
          show Go p e below s n0 _ _ _ (T344.setTop (mkF m 86 #[rv ad, iv xk.toInt32, iv 4, rv fr, rv tv, rv b301, iv 1, .unset] [(.int 3), (.ref fr)]))
          refine Go.iaload C X344 ((AF_.ext E301).other W344 ne_fr_b301) (by decide) rfl d3_86 ?_
          show Go p e below s n0 _ _ _ (T344.setTop (mkF m 87 #[rv ad, iv xk.toInt32, iv 4, rv fr, rv tv, rv b301, iv 1, .unset] [(.int g3.toInt32)]))
          refine Go.st (fun _ => XS.iloadN X344.here C.hx rfl (hb C.hby d3_87) rfl) ?_
          show Go p e below s n0 _ _ _ (T344.setTop (mkF m 88 #[rv ad, iv xk.toInt32, iv 4, rv fr, rv tv, rv b301, iv 1, .unset] [(.int xk.toInt32), (.int g3.toInt32)]))
          refine Go.icmp_ne C X344 (pc' := 103) d3_88 (by decide) (by decide) (fun hc88_349 => ?_) (fun hc88_349 => ?_)
          · have p0 := eq_false (fun u : xk = g0 => hc16_303 ((eqI (by omega) (by omega)).mpr u.symm))
            have p1 := eq_true ((eqI (by omega) (by omega)).mp hc40_305).symm
            have p2 := eq_false (fun u : xk = g2 => hc64_347 ((eqI (by omega) (by omega)).mpr u.symm))
            have p3 := eq_false (fun u : xk = g3 => hc88_349 ((eqI (by omega) (by omega)).mpr u.symm))
            have RL : rowP (fsF g0 g1 g2 g3) (tsF t0 t1 t2 t3) 4 4 xk = [t1] := by
              simp only [rowP, cnt, fsF0, tsF0, fsF1, tsF1, fsF2, tsF2, fsF3, tsF3, p0, p1, p2, p3, if_true, if_false]
              try rfl
            have AXX : AR Z h344 (rs xk) .int [(.int t1)] := by have u := AX_345; rw [RL] at u; exact u
            show Go p e below s n0 _ _ _ (T344.setTop (mkF m 103 #[rv ad, iv xk.toInt32, iv 4, rv fr, rv tv, rv b301, iv 1, .unset] []))
            refine Go.st (fun _ => XS.aloadN X344.here C.hx rfl (hb C.hby d3_103) rfl rfl) ?_
            show Go p e below s n0 _ _ _ (T344.setTop (mkF m 104 #[rv ad, iv xk.toInt32, iv 4, rv fr, rv tv, rv b301, iv 1, .unset] [(.ref ad)]))
            refine Go.st (fun _ => XS.iloadN X344.here C.hx rfl (hb C.hby d3_104) rfl) ?_
            show Go p e below s n0 _ _ _ (T344.setTop (mkF m 105 #[rv ad, iv xk.toInt32, iv 4, rv fr, rv tv, rv b301, iv 1, .unset] [(.int xk.toInt32), (.ref ad)]))
            refine Go.aaload C X344 (((O.ext E301).other W344 ne_ad_b301)).ar rfl (nn32 (by omega)) (ou_get hc hx) d3_105 ?_
            show Go p e below s n0 _ _ _ (T344.setTop (mkF m 106 #[rv ad, iv xk.toInt32, iv 4, rv fr, rv tv, rv b301, iv 1, .unset] [(.ref (rs xk))]))
            refine Go.st (fun _ => XS.astore X344.here C.hx rfl (hb C.hby d3_106) rfl rfl (l' := #[rv ad, iv xk.toInt32, iv 4, rv fr, rv tv, rv b301, iv 1, rv (rs xk)]) rfl) ?_
            show Go p e below s n0 _ _ _ (T344.setTop (mkF m 108 #[rv ad, iv xk.toInt32, iv 4, rv fr, rv tv, rv b301, iv 1, rv (rs xk)] []))
            refine Go.st (fun _ => XS.aload X344.here C.hx rfl (hb C.hby d3_108) rfl rfl) ?_
            show Go p e below s n0 _ _ _ (T344.setTop (mkF m 110 #[rv ad, iv xk.toInt32, iv 4, rv fr, rv tv, rv b301, iv 1, rv (rs xk)] [(.ref (rs xk))]))
            refine Go.st (fun _ => XS.ifnullNo X344.here C.hx rfl (hb C.hby d3_110) rfl) ?_
            show Go p e below s n0 _ _ _ (T344.setTop (mkF m 113 #[rv ad, iv xk.toInt32, iv 4, rv fr, rv tv, rv b301, iv 1, rv (rs xk)] []))
            refine Go.st (fun _ => XS.aload X344.here C.hx rfl (hb C.hby d3_113) rfl rfl) ?_
            show Go p e below s n0 _ _ _ (T344.setTop (mkF m 115 #[rv ad, iv xk.toInt32, iv 4, rv fr, rv tv, rv b301, iv 1, rv (rs xk)] [(.ref (rs xk))]))
            refine Go.alen C X344 AXX (z := (1 : Int32)) rfl d3_115 ?_
            show Go p e below s n0 _ _ _ (T344.setTop (mkF m 116 #[rv ad, iv xk.toInt32, iv 4, rv fr, rv tv, rv b301, iv 1, rv (rs xk)] [(.int 1)]))
            refine Go.st (fun _ => XS.iload X344.here C.hx rfl (hb C.hby d3_116) rfl) ?_
            show Go p e below s n0 _ _ _ (T344.setTop (mkF m 118 #[rv ad, iv xk.toInt32, iv 4, rv fr, rv tv, rv b301, iv 1, rv (rs xk)] [(.int 1), (.int 1)]))
            refine Go.icmp_eq C X344 (pc' := 123) d3_118 (by decide) (by decide) (fun _ => ?_) (fun hc => absurd hc (by decide))
            show Go p e below s n0 _ _ _ (T344.setTop (mkF m 123 #[rv ad, iv xk.toInt32, iv 4, rv fr, rv tv, rv b301, iv 1, rv (rs xk)] []))
            refine Go.st (fun _ => XS.iload X344.here C.hx rfl (hb C.hby d3_123) rfl) ?_
            show Go p e below s n0 _ _ _ (T344.setTop (mkF m 125 #[rv ad, iv xk.toInt32, iv 4, rv fr, rv tv, rv b301, iv 1, rv (rs xk)] [(.int 1)]))
            refine Go.st (fun _ => XS.iconst X344.here C.hx rfl (hb C.hby d3_125)) ?_
            show Go p e below s n0 _ _ _ (T344.setTop (mkF m 126 #[rv ad, iv xk.toInt32, iv 4, rv fr, rv tv, rv b301, iv 1, rv (rs xk)] [(.int 1), (.int 1)]))
            refine Go.icmp_lt C X344 (pc' := 140) d3_126 (by decide) (by decide) (fun hc => absurd hc (by decide)) (fun _ => ?_)
            show Go p e below s n0 _ _ _ (T344.setTop (mkF m 129 #[rv ad, iv xk.toInt32, iv 4, rv fr, rv tv, rv b301, iv 1, rv (rs xk)] []))
            refine Go.st (fun _ => XS.aload X344.here C.hx rfl (hb C.hby d3_129) rfl rfl) ?_
            show Go p e below s n0 _ _ _ (T344.setTop (mkF m 131 #[rv ad, iv xk.toInt32, iv 4, rv fr, rv tv, rv b301, iv 1, rv (rs xk)] [(.ref (rs xk))]))
            refine Go.st (fun _ => XS.iconst X344.here C.hx rfl (hb C.hby d3_131)) ?_
            show Go p e below s n0 _ _ _ (T344.setTop (mkF m 132 #[rv ad, iv xk.toInt32, iv 4, rv fr, rv tv, rv b301, iv 1, rv (rs xk)] [(.int 0), (.ref (rs xk))]))
            refine Go.iaload C X344 AXX (by decide) rfl d3_132 ?_
            show Go p e below s n0 _ _ _ (T344.setTop (mkF m 133 #[rv ad, iv xk.toInt32, iv 4, rv fr, rv tv, rv b301, iv 1, rv (rs xk)] [(.int t1)]))
            refine Go.st (fun _ => XS.aload X344.here C.hx rfl (hb C.hby d3_133) rfl rfl) ?_
            show Go p e below s n0 _ _ _ (T344.setTop (mkF m 135 #[rv ad, iv xk.toInt32, iv 4, rv fr, rv tv, rv b301, iv 1, rv (rs xk)] [(.ref b301), (.int t1)]))
            refine Go.st (fun _ => XS.iconst X344.here C.hx rfl (hb C.hby d3_135)) ?_
            show Go p e below s n0 _ _ _ (T344.setTop (mkF m 136 #[rv ad, iv xk.toInt32, iv 4, rv fr, rv tv, rv b301, iv 1, rv (rs xk)] [(.int 0), (.ref b301), (.int t1)]))
            refine Go.iaload C X344 A_344 (by decide) rfl d3_136 ?_
            show Go p e below s n0 _ _ _ (T344.setTop (mkF m 137 #[rv ad, iv xk.toInt32, iv 4, rv fr, rv tv, rv b301, iv 1, rv (rs xk)] [(.int t1), (.int t1)]))
            refine Go.icmp_ne C X344 (pc' := 195) d3_137 (by decide) (by decide) (fun hc => by first | exact absurd hc rfl | exact absurd rfl hc) (fun _ => ?_)
            show Go p e below s n0 _ _ _ (T344.setTop (mkF m 140 #[rv ad, iv xk.toInt32, iv 4, rv fr, rv tv, rv b301, iv 1, rv (rs xk)] []))
            refine Go.st (fun _ => XS.iload X344.here C.hx rfl (hb C.hby d3_140) rfl) ?_
            show Go p e below s n0 _ _ _ (T344.setTop (mkF m 142 #[rv ad, iv xk.toInt32, iv 4, rv fr, rv tv, rv b301, iv 1, rv (rs xk)] [(.int 1)]))
            refine Go.st (fun _ => XS.iconst X344.here C.hx rfl (hb C.hby d3_142)) ?_
            show Go p e below s n0 _ _ _ (T344.setTop (mkF m 143 #[rv ad, iv xk.toInt32, iv 4, rv fr, rv tv, rv b301, iv 1, rv (rs xk)] [(.int 2), (.int 1)]))
            refine Go.icmp_lt C X344 (pc' := 157) d3_143 (by decide) (by decide) (fun _ => ?_) (fun hc => absurd hc (by decide))
            show Go p e below s n0 _ _ _ (T344.setTop (mkF m 157 #[rv ad, iv xk.toInt32, iv 4, rv fr, rv tv, rv b301, iv 1, rv (rs xk)] []))
            refine Go.st (fun _ => XS.iload X344.here C.hx rfl (hb C.hby d3_157) rfl) ?_
            show Go p e below s n0 _ _ _ (T344.setTop (mkF m 159 #[rv ad, iv xk.toInt32, iv 4, rv fr, rv tv, rv b301, iv 1, rv (rs xk)] [(.int 1)]))
            refine Go.st (fun _ => XS.iconst X344.here C.hx rfl (hb C.hby d3_159)) ?_
            show Go p e below s n0 _ _ _ (T344.setTop (mkF m 160 #[rv ad, iv xk.toInt32, iv 4, rv fr, rv tv, rv b301, iv 1, rv (rs xk)] [(.int 3), (.int 1)]))
            refine Go.icmp_lt C X344 (pc' := 174) d3_160 (by decide) (by decide) (fun _ => ?_) (fun hc => absurd hc (by decide))
            show Go p e below s n0 _ _ _ (T344.setTop (mkF m 174 #[rv ad, iv xk.toInt32, iv 4, rv fr, rv tv, rv b301, iv 1, rv (rs xk)] []))
            refine Go.st (fun _ => XS.iload X344.here C.hx rfl (hb C.hby d3_174) rfl) ?_
            show Go p e below s n0 _ _ _ (T344.setTop (mkF m 176 #[rv ad, iv xk.toInt32, iv 4, rv fr, rv tv, rv b301, iv 1, rv (rs xk)] [(.int 1)]))
            refine Go.st (fun _ => XS.iconst X344.here C.hx rfl (hb C.hby d3_176)) ?_
            show Go p e below s n0 _ _ _ (T344.setTop (mkF m 177 #[rv ad, iv xk.toInt32, iv 4, rv fr, rv tv, rv b301, iv 1, rv (rs xk)] [(.int 4), (.int 1)]))
            refine Go.icmp_lt C X344 (pc' := 191) d3_177 (by decide) (by decide) (fun _ => ?_) (fun hc => absurd hc (by decide))
            show Go p e below s n0 _ _ _ (T344.setTop (mkF m 191 #[rv ad, iv xk.toInt32, iv 4, rv fr, rv tv, rv b301, iv 1, rv (rs xk)] []))
            refine Go.st (fun _ => XS.iconst X344.here C.hx rfl (hb C.hby d3_191)) ?_
            show Go p e below s n0 _ _ _ (T344.setTop (mkF m 192 #[rv ad, iv xk.toInt32, iv 4, rv fr, rv tv, rv b301, iv 1, rv (rs xk)] [(.int 1)]))
            refine Go.st (fun _ => XS.goto X344.here C.hx rfl (pc0 := 192) (pc' := 196) rfl (hb C.hby d3_192) (by decide) (by decide)) ?_
            show Go p e below s n0 _ _ _ (T344.setTop (mkF m 196 #[rv ad, iv xk.toInt32, iv 4, rv fr, rv tv, rv b301, iv 1, rv (rs xk)] [(.int 1)]))
            exact Go.retZ C X344 (by decide) d3_196 ⟨rfl, K344⟩ (by decide) (by decide)
          · show Go p e below s n0 _ _ _ (T344.setTop (mkF m 91 #[rv ad, iv xk.toInt32, iv 4, rv fr, rv tv, rv b301, iv 1, .unset] []))
            refine Go.st (fun _ => XS.aload X344.here C.hx rfl (hb C.hby d3_91) rfl rfl) ?_
            show Go p e below s n0 _ _ _ (T344.setTop (mkF m 93 #[rv ad, iv xk.toInt32, iv 4, rv fr, rv tv, rv b301, iv 1, .unset] [(.ref b301)]))
            refine Go.st (fun _ => XS.iload X344.here C.hx rfl (hb C.hby d3_93) rfl) ?_
            show Go p e below s n0 _ _ _ (T344.setTop (mkF m 95 #[rv ad, iv xk.toInt32, iv 4, rv fr, rv tv, rv b301, iv 1, .unset] [(.int 1), (.ref b301)]))
            refine Go.st (fun _ => XS.aload X344.here C.hx rfl (hb C.hby d3_95) rfl rfl) ?_
            show Go p e below s n0 _ _ _ (T344.setTop (mkF m 97 #[rv ad, iv xk.toInt32, iv 4, rv fr, rv tv, rv b301, iv 1, .unset] [(.ref tv), (.int 1), (.ref b301)]))
            refine Go.st (fun _ => XS.iconst X344.here C.hx rfl (hb C.hby d3_97)) ?_
            show Go p e below s n0 _ _ _ (T344.setTop (mkF m 98 #[rv ad, iv xk.toInt32, iv 4, rv fr, rv tv, rv b301, iv 1, .unset] [(.int 3), (.ref tv), (.int 1), (.ref b301)]))
            refine Go.iaload C X344 ((AT_.ext E301).other W344 ne_tv_b301) (by decide) rfl d3_98 ?_
            show Go p e below s n0 _ _ _ (T344.setTop (mkF m 99 #[rv ad, iv xk.toInt32, iv 4, rv fr, rv tv, rv b301, iv 1, .unset] [(.int t3), (.int 1), (.ref b301)]))
            refine Go.iastore C X344 A_344 (by decide) (Nat.le_of_ble_eq_true rfl) ge301 d3_99 (fun T356 h356 X356 W356 A356 => ?_)
            have A_356 : AR Z h356 b301 .int [(.int t1), (.int t3), (.int 0), (.int 0)] := A356
            have O_357 : AO Z h356 ad (ouV cc cc rs) := (((O.ext E301).other W344 ne_ad_b301).other W356 ne_ad_b301)
            have AF__358 : AR Z h356 fr .int [(.int g0.toInt32), (.int g1.toInt32), (.int g2.toInt32), (.int g3.toInt32)] := (((AF_.ext E301).other W344 ne_fr_b301).other W356 ne_fr_b301)
            have AT__359 : AR Z h356 tv .int [(.int t0), (.int t1), (.int t2), (.int t3)] := (((AT_.ext E301).other W344 ne_tv_b301).other W356 ne_tv_b301)
            have K356 : Keep h0 h356 [] := K344.wr W356 (Or.inr old_b301)
            show Go p e below s n0 _ _ _ (T356.setTop (mkF m 100 #[rv ad, iv xk.toInt32, iv 4, rv fr, rv tv, rv b301, iv 1, .unset] []))
            refine Go.st (fun _ => XS.iinc X356.here C.hx rfl (hb C.hby d3_100) rfl (l' := #[rv ad, iv xk.toInt32, iv 4, rv fr, rv tv, rv b301, iv 2, .unset]) rfl) ?_
            have p0 := eq_false (fun u : xk = g0 => hc16_303 ((eqI (by omega) (by omega)).mpr u.symm))
            have p1 := eq_true ((eqI (by omega) (by omega)).mp hc40_305).symm
            have p2 := eq_false (fun u : xk = g2 => hc64_347 ((eqI (by omega) (by omega)).mpr u.symm))
            have p3 := eq_true ((eqI (by omega) (by omega)).mp hc88_349).symm
            have RL : rowP (fsF g0 g1 g2 g3) (tsF t0 t1 t2 t3) 4 4 xk = [t1, t3] := by
              simp only [rowP, cnt, fsF0, tsF0, fsF1, tsF1, fsF2, tsF2, fsF3, tsF3, p0, p1, p2, p3, if_true, if_false]
              try rfl
            have AXX : AR Z h356 (rs xk) .int [(.int t1), (.int t3)] := by have u := (AX_345.other W356 ne__rs_xk__b301); rw [RL] at u; exact u
            show Go p e below s n0 _ _ _ (T356.setTop (mkF m 103 #[rv ad, iv xk.toInt32, iv 4, rv fr, rv tv, rv b301, iv 2, .unset] []))
            refine Go.st (fun _ => XS.aloadN X356.here C.hx rfl (hb C.hby d3_103) rfl rfl) ?_
            show Go p e below s n0 _ _ _ (T356.setTop (mkF m 104 #[rv ad, iv xk.toInt32, iv 4, rv fr, rv tv, rv b301, iv 2, .unset] [(.ref ad)]))
            refine Go.st (fun _ => XS.iloadN X356.here C.hx rfl (hb C.hby d3_104) rfl) ?_
            show Go p e below s n0 _ _ _ (T356.setTop (mkF m 105 #[rv ad, iv xk.toInt32, iv 4, rv fr, rv tv, rv b301, iv 2, .unset] [(.int xk.toInt32), (.ref ad)]))
            refine Go.aaload C X356 (O_357).ar rfl (nn32 (by omega)) (ou_get hc hx) d3_105 ?_
            show Go p e below s n0 _ _ _ (T356.setTop (mkF m 106 #[rv ad, iv xk.toInt32, iv 4, rv fr, rv tv, rv b301, iv 2, .unset] [(.ref (rs xk))]))
            refine Go.st (fun _ => XS.astore X356.here C.hx rfl (hb C.hby d3_106) rfl rfl (l' := #[rv ad, iv xk.toInt32, iv 4, rv fr, rv tv, rv b301, iv 2, rv (rs xk)]) rfl) ?_
            show Go p e below s n0 _ _ _ (T356.setTop (mkF m 108 #[rv ad, iv xk.toInt32, iv 4, rv fr, rv tv, rv b301, iv 2, rv (rs xk)] []))
            refine Go.st (fun _ => XS.aload X356.here C.hx rfl (hb C.hby d3_108) rfl rfl) ?_
            show Go p e below s n0 _ _ _ (T356.setTop (mkF m 110 #[rv ad, iv xk.toInt32, iv 4, rv fr, rv tv, rv b301, iv 2, rv (rs xk)] [(.ref (rs xk))]))
            refine Go.st (fun _ => XS.ifnullNo X356.here C.hx rfl (hb C.hby d3_110) rfl) ?_
            show Go p e below s n0 _ _ _ (T356.setTop (mkF m 113 #[rv ad, iv xk.toInt32, iv 4, rv fr, rv tv, rv b301, iv 2, rv (rs xk)] []))
            refine Go.st (fun _ => XS.aload X356.here C.hx rfl (hb C.hby d3_113) rfl rfl) ?_
            show Go p e below s n0 _ _ _ (T356.setTop (mkF m 115 #[rv ad, iv xk.toInt32, iv 4, rv fr, rv tv, rv b301, iv 2, rv (rs xk)] [(.ref (rs xk))]))
            refine Go.alen C X356 AXX (z := (2 : Int32)) rfl d3_115 ?_
            show Go p e below s n0 _ _ _ (T356.setTop (mkF m 116 #[rv ad, iv xk.toInt32, iv 4, rv fr, rv tv, rv b301, iv 2, rv (rs xk)] [(.int 2)]))
            refine Go.st (fun _ => XS.iload X356.here C.hx rfl (hb C.hby d3_116) rfl) ?_
            show Go p e below s n0 _ _ _ (T356.setTop (mkF m 118 #[rv ad, iv xk.toInt32, iv 4, rv fr, rv tv, rv b301, iv 2, rv (rs xk)] [(.int 2), (.int 2)]))
            refine Go.icmp_eq C X356 (pc' := 123) d3_118 (by decide) (by decide) (fun _ => ?_) (fun hc => absurd hc (by decide))
            show Go p e below s n0 _ _ _ (T356.setTop (mkF m 123 #[rv ad, iv xk.toInt32, iv 4, rv fr, rv tv, rv b301, iv 2, rv (rs xk)] []))
            refine Go.st (fun _ => XS.iload X356.here C.hx rfl (hb C.hby d3_123) rfl) ?_
            show Go p e below s n0 _ _ _ (T356.setTop (mkF m 125 #[rv ad, iv xk.toInt32, iv 4, rv fr, rv tv, rv b301, iv 2, rv (rs xk)] [(.int 2)]))
            refine Go.st (fun _ => XS.iconst X356.here C.hx rfl (hb C.hby d3_125)) ?_
            show Go p e below s n0 _ _ _ (T356.setTop (mkF m 126 #[rv ad, iv xk.toInt32, iv 4, rv fr, rv tv, rv b301, iv 2, rv (rs xk)] [(.int 1), (.int 2)]))
            refine Go.icmp_lt C X356 (pc' := 140) d3_126 (by decide) (by decide) (fun hc => absurd hc (by decide)) (fun _ => ?_)
            show Go p e below s n0 _ _ _ (T356.setTop (mkF m 129 #[rv ad, iv xk.toInt32, iv 4, rv fr, rv tv, rv b301, iv 2, rv (rs xk)] []))
            refine Go.st (fun _ => XS.aload X356.here C.hx rfl (hb C.hby d3_129) rfl rfl) ?_
            show Go p e below s n0 _ _ _ (T356.setTop (mkF m 131 #[rv ad, iv xk.toInt32, iv 4, rv fr, rv tv, rv b301, iv 2, rv (rs xk)] [(.ref (rs xk))]))
            refine Go.st (fun _ => XS.iconst X356.here C.hx rfl (hb C.hby d3_131)) ?_
            show Go p e below s n0 _ _ _ (T356.setTop (mkF m 132 #[rv ad, iv xk.toInt32, iv 4, rv fr, rv tv, rv b301, iv 2, rv (rs xk)] [(.int 0), (.ref (rs xk))]))
            refine Go.iaload C X356 AXX (by decide) rfl d3_132 ?_
            show Go p e below s n0 _ _ _ (T356.setTop (mkF m 133 #[rv ad, iv xk.toInt32, iv 4, rv fr, rv tv, rv b301, iv 2, rv (rs xk)] [(.int t1)]))
            refine Go.st (fun _ => XS.aload X356.here C.hx rfl (hb C.hby d3_133) rfl rfl) ?_
            show Go p e below s n0 _ _ _ (T356.setTop (mkF m 135 #[rv ad, iv xk.toInt32, iv 4, rv fr, rv tv, rv b301, iv 2, rv (rs xk)] [(.ref b301), (.int t1)]))
            refine Go.st (fun _ => XS.iconst X356.here C.hx rfl (hb C.hby d3_135)) ?_
            show Go p e below s n0 _ _ _ (T356.setTop (mkF m 136 #[rv ad, iv xk.toInt32, iv 4, rv fr, rv tv, rv b301, iv 2, rv (rs xk)] [(.int 0), (.ref b301), (.int t1)]))
            refine Go.iaload C X356 A_356 (by decide) rfl d3_136 ?_
            show Go p e below s n0 _ _ _ (T356.setTop (mkF m 137 #[rv ad, iv xk.toInt32, iv 4, rv fr, rv tv, rv b301, iv 2, rv (rs xk)] [(.int t1), (.int t1)]))
            refine Go.icmp_ne C X356 (pc' := 195) d3_137 (by decide) (by decide) (fun hc => by first | exact absurd hc rfl | exact absurd rfl hc) (fun _ => ?_)
            show Go p e below s n0 _ _ _ (T356.setTop (mkF m 140 #[rv ad, iv xk.toInt32, iv 4, rv fr, rv tv, rv b301, iv 2, rv (rs xk)] []))
            refine Go.st (fun _ => XS.iload X356.here C.hx rfl (hb C.hby d3_140) rfl) ?_
            show Go p e below s n0 _ _ _ (T356.setTop (mkF m 142 #[rv ad, iv xk.toInt32, iv 4, rv fr, rv tv, rv b301, iv 2, rv (rs xk)] [(.int 2)]))
            refine Go.st (fun _ => XS.iconst X356.here C.hx rfl (hb C.hby d3_142)) ?_
            show Go p e below s n0 _ _ _ (T356.setTop (mkF m 143 #[rv ad, iv xk.toInt32, iv 4, rv fr, rv tv, rv b301, iv 2, rv (rs xk)] [(.int 2), (.int 2)]))
            refine Go.icmp_lt C X356 (pc' := 157) d3_143 (by decide) (by decide) (fun hc => absurd hc (by decide)) (fun _ => ?_)
            show Go p e below s n0 _ _ _ (T356.setTop (mkF m 146 #[rv ad, iv xk.toInt32, iv 4, rv fr, rv tv, rv b301, iv 2, rv (rs xk)] []))
            refine Go.st (fun _ => XS.aload X356.here C.hx rfl (hb C.hby d3_146) rfl rfl) ?_
            show Go p e below s n0 _ _ _ (T356.setTop (mkF m 148 #[rv ad, iv xk.toInt32, iv 4, rv fr, rv tv, rv b301, iv 2, rv (rs xk)] [(.ref (rs xk))]))
            refine Go.st (fun _ => XS.iconst X356.here C.hx rfl (hb C.hby d3_148)) ?_
            show Go p e below s n0 _ _ _ (T356.setTop (mkF m 149 #[rv ad, iv xk.toInt32, iv 4, rv fr, rv tv, rv b301, iv 2, rv (rs xk)] [(.int 1), (.ref (rs xk))]))
            refine Go.iaload C X356 AXX (by decide) rfl d3_149 ?_
            show Go p e below s n0 _ _ _ (T356.setTop (mkF m 150 #[rv ad, iv xk.toInt32, iv 4, rv fr, rv tv, rv b301, iv 2, rv (rs xk)] [(.int t3)]))
            refine Go.st (fun _ => XS.aload X356.here C.hx rfl (hb C.hby d3_150) rfl rfl) ?_
            show Go p e below s n0 _ _ _ (T356.setTop (mkF m 152 #[rv ad, iv xk.toInt32, iv 4, rv fr, rv tv, rv b301, iv 2, rv (rs xk)] [(.ref b301), (.int t3)]))
            refine Go.st (fun _ => XS.iconst X356.here C.hx rfl (hb C.hby d3_152)) ?_
            show Go p e below s n0 _ _ _ (T356.setTop (mkF m 153 #[rv ad, iv xk.toInt32, iv 4, rv fr, rv tv, rv b301, iv 2, rv (rs xk)] [(.int 1), (.ref b301), (.int t3)]))
            refine Go.iaload C X356 A_356 (by decide) rfl d3_153 ?_
            show Go p e below s n0 _ _ _ (T356.setTop (mkF m 154 #[rv ad, iv xk.toInt32, iv 4, rv fr, rv tv, rv b301, iv 2, rv (rs xk)] [(.int t3), (.int t3)]))
            refine Go.icmp_ne C X356 (pc' := 195) d3_154 (by decide) (by decide) (fun hc => by first | exact absurd hc rfl | exact absurd rfl hc) (fun _ => ?_)
            show Go p e below s n0 _ _ _ (T356.setTop (mkF m 157 #[rv ad, iv xk.toInt32, iv 4, rv fr, rv tv, rv b301, iv 2, rv (rs xk)] []))
            refine Go.st (fun _ => XS.iload X356.here C.hx rfl (hb C.hby d3_157) rfl) ?_
            show Go p e below s n0 _ _ _ (T356.setTop (mkF m 159 #[rv ad, iv xk.toInt32, iv 4, rv fr, rv tv, rv b301, iv 2, rv (rs xk)] [(.int 2)]))
            refine Go.st (fun _ => XS.iconst X356.here C.hx rfl (hb C.hby d3_159)) ?_
            show Go p e below s n0 _ _ _ (T356.setTop (mkF m 160 #[rv ad, iv xk.toInt32, iv 4, rv fr, rv tv, rv b301, iv 2, rv (rs xk)] [(.int 3), (.int 2)]))
            refine Go.icmp_lt C X356 (pc' := 174) d3_160 (by decide) (by decide) (fun _ => ?_) (fun hc => absurd hc (by decide))
            show Go p e below s n0 _ _ _ (T356.setTop (mkF m 174 #[rv ad, iv xk.toInt32, iv 4, rv fr, rv tv, rv b301, iv 2, rv (rs xk)] []))
            refine Go.st (fun _ => XS.iload X356.here C.hx rfl (hb C.hby d3_174) rfl) ?_
            show Go p e below s n0 _ _ _ (T356.setTop (mkF m 176 #[rv ad, iv xk.toInt32, iv 4, rv fr, rv tv, rv b301, iv 2, rv (rs xk)] [(.int 2)]))
            refine Go.st (fun _ => XS.iconst X356.here C.hx rfl (hb C.hby d3_176)) ?_
            show Go p e below s n0 _ _ _ (T356.setTop (mkF m 177 #[rv ad, iv xk.toInt32, iv 4, rv fr, rv tv, rv b301, iv 2, rv (rs xk)] [(.int 4), (.int 2)]))
            refine Go.icmp_lt C X356 (pc' := 191) d3_177 (by decide) (by decide) (fun _ => ?_) (fun hc => absurd hc (by decide))
            show Go p e below s n0 _ _ _ (T356.setTop (mkF m 191 #[rv ad, iv xk.toInt32, iv 4, rv fr, rv tv, rv b301, iv 2, rv (rs xk)] []))
            refine Go.st (fun _ => XS.iconst X356.here C.hx rfl (hb C.hby d3_191)) ?_
            show Go p e below s n0 _ _ _ (T356.setTop (mkF m 192 #[rv ad, iv xk.toInt32, iv 4, rv fr, rv tv, rv b301, iv 2, rv (rs xk)] [(.int 1)]))
            refine Go.st (fun _ => XS.goto X356.here C.hx rfl (pc0 := 192) (pc' := 196) rfl (hb C.hby d3_192) (by decide) (by decide)) ?_
            show Go p e below s n0 _ _ _ (T356.setTop (mkF m 196 #[rv ad, iv xk.toInt32, iv 4, rv fr, rv tv, rv b301, iv 2, rv (rs xk)] [(.int 1)]))
            exact Go.retZ C X356 (by decide) d3_196 ⟨rfl, K356⟩ (by decide) (by decide)
        · show Go p e below s n0 _ _ _ (T344.setTop (mkF m 67 #[rv ad, iv xk.toInt32, iv 4, rv fr, rv tv, rv b301, iv 1, .unset] []))
          refine Go.st (fun _ => XS.aload X344.here C.hx rfl (hb C.hby d3_67) rfl rfl) ?_
          show Go p e below s n0 _ _ _ (T344.setTop (mkF m 69 #[rv ad, iv xk.toInt32, iv 4, rv fr, rv tv, rv b301, iv 1, .unset] [(.ref b301)]))
          refine Go.st (fun _ => XS.iload X344.here C.hx rfl (hb C.hby d3_69) rfl) ?_
          show Go p e below s n0 _ _ _ (T344.setTop (mkF m 71 #[rv ad, iv xk.toInt32, iv 4, rv fr, rv tv, rv b301, iv 1, .unset] [(.int 1), (.ref b301)]))
          refine Go.st (fun _ => XS.aload X344.here C.hx rfl (hb C.hby d3_71) rfl rfl) ?_
          show Go p e below s n0 _ _ _ (T344.setTop (mkF m 73 #[rv ad, iv xk.toInt32, iv 4, rv fr, rv tv, rv b301, iv 1, .unset] [(.ref tv), (.int 1), (.ref b301)]))
          refine Go.st (fun _ => XS.iconst X344.here C.hx rfl (hb C.hby d3_73)) ?_
          show Go p e below s n0 _ _ _ (T344.setTop (mkF m 74 #[rv ad, iv xk.toInt32, iv 4, rv fr, rv tv, rv b301, iv 1, .unset] [(.int 2), (.ref tv), (.int 1), (.ref b301)]))
          refine Go.iaload C X344 ((AT_.ext E301).other W344 ne_tv_b301) (by decide) rfl d3_74 ?_
          show Go p e below s n0 _ _ _ (T344.setTop (mkF m 75 #[rv ad, iv xk.toInt32, iv 4, rv fr, rv tv, rv b301, iv 1, .unset] [(.int t2), (.int 1), (.ref b301)]))
          refine Go.iastore C X344 A_344 (by decide) (Nat.le_of_ble_eq_true rfl) ge301 d3_75 (fun T367 h367 X367 W367 A367 => ?_)
          have A_367 : AR Z h367 b301 .int [(.int t1), (.int t2), (.int 0), (.int 0)] := A367
          have O_368 : AO Z h367 ad (ouV cc cc rs) := (((O.ext E301).other W344 ne_ad_b301).other W367 ne_ad_b301)
          have AF__369 : AR Z h367 fr .int [(.int g0.toInt32), (.int g1.toInt32), (.int g2.toInt32), (.int g3.toInt32)] := (((AF_.ext E301).other W344 ne_fr_b301).other W367 ne_fr_b301)
          have AT__370 : AR Z h367 tv .int [(.int t0), (.int t1), (.int t2), (.int t3)] := (((AT_.ext E301).other W344 ne_tv_b301).other W367 ne_tv_b301)
          have K367 : Keep h0 h367 [] := K344.wr W367 (Or.inr old_b301)
          show Go p e below s n0 _ _ _ (T367.setTop (mkF m 76 #[rv ad, iv xk.toInt32, iv 4, rv fr, rv tv, rv b301, iv 1, .unset] []))
          refine Go.st (fun _ => XS.iinc X367.here C.hx rfl (hb C.hby d3_76) rfl (l' := #[rv ad, iv xk.toInt32, iv 4, rv fr, rv tv, rv b301, iv 2, .unset]) rfl) ?_
          show Go p e below s n0 _ _ _ (T367.setTop (mkF m 79 #[rv ad, iv xk.toInt32, iv 4, rv fr, rv tv, rv b301, iv 2, .unset] []))
          refine Go.st (fun _ => XS.iloadN X367.here C.hx rfl (hb C.hby d3_79) rfl) ?_
          show Go p e below s n0 _ _ _ (T367.setTop (mkF m 80 #[rv ad, iv xk.toInt32, iv 4, rv fr, rv tv, rv b301, iv 2, .unset] [(.int 4)]))
          refine Go.st (fun _ => XS.iconst X367.here C.hx rfl (hb C.hby d3_80)) ?_
          show Go p e below s n0 _ _ _ (T367.setTop (mkF m 81 #[rv ad, iv xk.toInt32, iv 4, rv fr, rv tv, rv b301, iv 2, .unset] [(.int 3), (.int 4)]))
          refine Go.icmp_le C X367 (pc' := 103) d3_81 (by decide) (by decide) (fun hc => absurd hc (by decide)) (fun _ => ?_)
          show Go p e below s n0 _ _ _ (T367.setTop (mkF m 84 #[rv ad, iv xk.toInt32, iv 4, rv fr, rv tv, rv b301, iv 2, .unset] []))
          refine Go.st (fun _ => XS.aloadN X367.here C.hx rfl (hb C.hby d3_84) rfl rfl) ?_
          show Go p e below s n0 _ _ _ (T367.setTop (mkF m 85 #[rv ad, iv xk.toInt32, iv 4, rv fr, rv tv, rv b301, iv 2, .unset] [(.ref fr)]))
          refine Go.st (fun _ => XS.iconst X367.here C.hx rfl (hb C.hby d3_85)) ?_
          show Go p e below s n0 _ _ _ (T367.setTop (mkF m 86 #[rv ad, iv xk.toInt32, iv 4, rv fr, rv tv, rv b301, iv 2, .unset] [(.int 3), (.ref fr)]))
          refine Go.iaload C X367 AF__369 (by decide) rfl d3_86 ?_
          show Go p e below s n0 _ _ _ (T367.setTop (mkF m 87 #[rv ad, iv xk.toInt32, iv 4, rv fr, rv tv, rv b301, iv 2, .unset] [(.int g3.toInt32)]))
          refine Go.st (fun _ => XS.iloadN X367.here C.hx rfl (hb C.hby d3_87) rfl) ?_
          show Go p e below s n0 _ _ _ (T367.setTop (mkF m 88 #[rv ad, iv xk.toInt32, iv 4, rv fr, rv tv, rv b301, iv 2, .unset] [(.int xk.toInt32), (.int g3.toInt32)]))
          refine Go.icmp_ne C X367 (pc' := 103) d3_88 (by decide) (by decide) (fun hc88_372 => ?_) (fun hc88_372 => ?_)
          · have p0 := eq_false (fun u : xk = g0 => hc16_303 ((eqI (by omega) (by omega)).mpr u.symm))
            have p1 := eq_true ((eqI (by omega) (by omega)).mp hc40_305).symm
            have p2 := eq_true ((eqI (by omega) (by omega)).mp hc64_347).symm
            have p3 := eq_false (fun u : xk = g3 => hc88_372 ((eqI (by omega) (by omega)).mpr u.symm))
            have RL : rowP (fsF g0 g1 g2 g3) (tsF t0 t1 t2 t3) 4 4 xk = [t1, t2] := by
              simp only [rowP, cnt, fsF0, tsF0, fsF1, tsF1, fsF2, tsF2, fsF3, tsF3, p0, p1, p2, p3, if_true, if_false]
              try rfl
            have AXX : AR Z h367 (rs xk) .int [(.int t1), (.int t2)] := by have u := (AX_345.other W367 ne__rs_xk__b301); rw [RL] at u; exact u
            show Go p e below s n0 _ _ _ (T367.setTop (mkF m 103 #[rv ad, iv xk.toInt32, iv 4, rv fr, rv tv, rv b301, iv 2, .unset] []))
            refine Go.st (fun _ => XS.aloadN X367.here C.hx rfl (hb C.hby d3_103) rfl rfl) ?_
            show Go p e below s n0 _ _ _ (T367.setTop (mkF m 104 #[rv ad, iv xk.toInt32, iv 4, rv fr, rv tv, rv b301, iv 2, .unset] [(.ref ad)]))
            refine Go.st (fun _ => XS.iloadN X367.here C.hx rfl (hb C.hby d3_104) rfl) ?_
            show Go p e below s n0 _ _ _ (T367.setTop (mkF m 105 #[rv ad, iv xk.toInt32, iv 4, rv fr, rv tv, rv b301, iv 2, .unset] [(.int xk.toInt32), (.ref ad)]))
            refine Go.aaload C X367 (O_368).ar rfl (nn32 (by omega)) (ou_get hc hx) d3_105 ?_
            show Go p e below s n0 _ _ _ (T367.setTop (mkF m 106 #[rv ad, iv xk.toInt32, iv 4, rv fr, rv tv, rv b301, iv 2, .unset] [(.ref (rs xk))]))
            refine Go.st (fun _ => XS.astore X367.here C.hx rfl (hb C.hby d3_106) rfl rfl (l' := #[rv ad, iv xk.toInt32, iv 4, rv fr, rv tv, rv b301, iv 2, rv (rs xk)]) rfl) ?_
            show Go p e below s n0 _ _ _ (T367.setTop (mkF m 108 #[rv ad, iv xk.toInt32, iv 4, rv fr, rv tv, rv b301, iv 2, rv (rs xk)] []))
            refine Go.st (fun _ => XS.aload X367.here C.hx rfl (hb C.hby d3_108) rfl rfl) ?_
            show Go p e below s n0 _ _ _ (T367.setTop (mkF m 110 #[rv ad, iv xk.toInt32, iv 4, rv fr, rv tv, rv b301, iv 2, rv (rs xk)] [(.ref (rs xk))]))
            refine Go.st (fun _ => XS.ifnullNo X367.here C.hx rfl (hb C.hby d3_110) rfl) ?_
            show Go p e below s n0 _ _ _ (T367.setTop (mkF m 113 #[rv ad, iv xk.toInt32, iv 4, rv fr, rv tv, rv b301, iv 2, rv (rs xk)] []))
            refine Go.st (fun _ => XS.aload X367.here C.hx rfl (hb C.hby d3_113) rfl rfl) ?_
            show Go p e below s n0 _ _ _ (T367.setTop (mkF m 115 #[rv ad, iv xk.toInt32, iv 4, rv fr, rv tv, rv b301, iv 2, rv (rs xk)] [(.ref (rs xk))]))
            refine Go.alen C X367 AXX (z := (2 : Int32)) rfl d3_115 ?_
            show Go p e below s n0 _ _ _ (T367.setTop (mkF m 116 #[rv ad, iv xk.toInt32, iv 4, rv fr, rv tv, rv b301, iv 2, rv (rs xk)] [(.int 2)]))
            refine Go.st (fun _ => XS.iload X367.here C.hx rfl (hb C.hby d3_116) rfl) ?_
            show Go p e below s n0 _ _ _ (T367.setTop (mkF m 118 #[rv ad, iv xk.toInt32, iv 4, rv fr, rv tv, rv b301, iv 2, rv (rs xk)] [(.int 2), (.int 2)]))
            refine Go.icmp_eq C X367 (pc' := 123) d3_118 (by decide) (by decide) (fun _ => ?_) (fun hc => absurd hc (by decide))
            show Go p e below s n0 _ _ _ (T367.setTop (mkF m 123 #[rv ad, iv xk.toInt32, iv 4, rv fr, rv tv, rv b301, iv 2, rv (rs xk)] []))
            refine Go.st (fun _ => XS.iload X367.here C.hx rfl (hb C.hby d3_123) rfl) ?_
            show Go p e below s n0 _ _ _ (T367.setTop (mkF m 125 #[rv ad, iv xk.toInt32, iv 4, rv fr, rv tv, rv b301, iv 2, rv (rs xk)] [(.int 2)]))
            refine Go.st (fun _ => XS.iconst X367.here C.hx rfl (hb C.hby d3_125)) ?_
            show Go p e below s n0 _ _ _ (T367.setTop (mkF m 126 #[rv ad, iv xk.toInt32, iv 4, rv fr, rv tv, rv b301, iv 2, rv (rs xk)] [(.int 1), (.int 2)]))
            refine Go.icmp_lt C X367 (pc' := 140) d3_126 (by decide) (by decide) (fun hc => absurd hc (by decide)) (fun _ => ?_)
            show Go p e below s n0 _ _ _ (T367.setTop (mkF m 129 #[rv ad, iv xk.toInt32, iv 4, rv fr, rv tv, rv b301, iv 2, rv (rs xk)] []))
            refine Go.st (fun _ => XS.aload X367.here C.hx rfl (hb C.hby d3_129) rfl rfl) ?_
            show Go p e below s n0 _ _ _ (T367.setTop (mkF m 131 #[rv ad, iv xk.toInt32, iv 4, rv fr, rv tv, rv b301, iv 2, rv (rs xk)] [(.ref (rs xk))]))
            refine Go.st (fun _ => XS.iconst X367.here C.hx rfl (hb C.hby d3_131)) ?_
            show Go p e below s n0 _ _ _ (T367.setTop (mkF m 132 #[rv ad, iv xk.toInt32, iv 4, rv fr, rv tv, rv b301, iv 2, rv (rs xk)] [(.int 0), (.ref (rs xk))]))
            refine Go.iaload C X367 AXX (by decide) rfl d3_132 ?_
            show Go p e below s n0 _ _ _ (T367.setTop (mkF m 133 #[rv ad, iv xk.toInt32, iv 4, rv fr, rv tv, rv b301, iv 2, rv (rs xk)] [(.int t1)]))
            refine Go.st (fun _ => XS.aload X367.here C.hx rfl (hb C.hby d3_133) rfl rfl) ?_
            show Go p e below s n0 _ _ _ (T367.setTop (mkF m 135 #[rv ad, iv xk.toInt32, iv 4, rv fr, rv tv, rv b301, iv 2, rv (rs xk)] [(.ref b301), (.int t1)]))
            refine Go.st (fun _ => XS.iconst X367.here C.hx rfl (hb C.hby d3_135)) ?_
            show Go p e below s n0 _ _ _ (T367.setTop (mkF m 136 #[rv ad, iv xk.toInt32, iv 4, rv fr, rv tv, rv b301, iv 2, rv (rs xk)] [(.int 0), (.ref b301), (.int t1)]))
            refine Go.iaload C X367 A_367 (by decide) rfl d3_136 ?_
            show Go p e below s n0 _ _ _ (T367.setTop (mkF m 137 #[rv ad, iv xk.toInt32, iv 4, rv fr, rv tv, rv b301, iv 2, rv (rs xk)] [(.int t1), (.int t1)]))
            refine Go.icmp_ne C X367 (pc' := 195) d3_137 (by decide) (by decide) (fun hc => by first | exact absurd hc rfl | exact absurd rfl hc) (fun _ => ?_)
            show Go p e below s n0 _ _ _ (T367.setTop (mkF m 140 #[rv ad, iv xk.toInt32, iv 4, rv fr, rv tv, rv b301, iv 2, rv (rs xk)] []))
            refine Go.st (fun _ => XS.iload X367.here C.hx rfl (hb C.hby d3_140) rfl) ?_
            show Go p e below s n0 _ _ _ (T367.setTop (mkF m 142 #[rv ad, iv xk.toInt32, iv 4, rv fr, rv tv, rv b301, iv 2, rv (rs xk)] [(.int 2)]))
            refine Go.st (fun _ => XS.iconst X367.here C.hx rfl (hb C.hby d3_142)) ?_
            show Go p e below s n0 _ _ _ (T367.setTop (mkF m 143 #[rv ad, iv xk.toInt32, iv 4, rv fr, rv tv, rv b301, iv 2, rv (rs xk)] [(.int 2), (.int 2)]))
            refine Go.icmp_lt C X367 (pc' := 157) d3_143 (by decide) (by decide) (fun hc => absurd hc (by decide)) (fun _ => ?_)
            show Go p e below s n0 _ _ _ (T367.setTop (mkF m 146 #[rv ad, iv xk.toInt32, iv 4, rv fr, rv tv, rv b301, iv 2, rv (rs xk)] []))
            refine Go.st (fun _ => XS.aload X367.here C.hx rfl (hb C.hby d3_146) rfl rfl) ?_
            show Go p e below s n0 _ _ _ (T367.setTop (mkF m 148 #[rv ad, iv xk.toInt32, iv 4, rv fr, rv tv, rv b301, iv 2, rv (rs xk)] [(.ref (rs xk))]))
            refine Go.st (fun _ => XS.iconst X367.here C.hx rfl (hb C.hby d3_148)) ?_
            show Go p e below s n0 _ _ _ (T367.setTop (mkF m 149 #[rv ad, iv xk.toInt32, iv 4, rv fr, rv tv, rv b301, iv 2, rv (rs xk)] [(.int 1), (.ref (rs xk))]))
            refine Go.iaload C X367 AXX (by decide) rfl d3_149 ?_
            show Go p e below s n0 _ _ _ (T367.setTop (mkF m 150 #[rv ad, iv xk.toInt32, iv 4, rv fr, rv tv, rv b301, iv 2, rv (rs xk)] [(.int t2)]))
            refine Go.st (fun _ => XS.aload X367.here C.hx rfl (hb C.hby d3_150) rfl rfl) ?_
            show Go p e below s n0 _ _ _ (T367.setTop (mkF m 152 #[rv ad, iv xk.toInt32, iv 4, rv fr, rv tv, rv b301, iv 2, rv (rs xk)] [(.ref b301), (.int t2)]))
            refine Go.st (fun _ => XS.iconst X367.here C.hx rfl (hb C.hby d3_152)) ?_
            show Go p e below s n0 _ _ _ (T367.setTop (mkF m 153 #[rv ad, iv xk.toInt32, iv 4, rv fr, rv tv, rv b301, iv 2, rv (rs xk)] [(.int 1), (.ref b301), (.int t2)]))
            refine Go.iaload C X367 A_367 (by decide) rfl d3_153 ?_
            show Go p e below s n0 _ _ _ (T367.setTop (mkF m 154 #[rv ad, iv xk.toInt32, iv 4, rv fr, rv tv, rv b301, iv 2, rv (rs xk)] [(.int t2), (.int t2)]))
            refine Go.icmp_ne C X367 (pc' := 195) d3_154 (by decide) (by decide) (fun hc => by first | exact absurd hc rfl | exact absurd rfl hc) (fun _ => ?_)
            show Go p e below s n0 _ _ _ (T367.setTop (mkF m 157 #[rv ad, iv xk.toInt32, iv 4, rv fr, rv tv, rv b301, iv 2, rv (rs xk)] []))
            refine Go.st (fun _ => XS.iload X367.here C.hx rfl (hb C.hby d3_157) rfl) ?_
            show Go p e below s n0 _ _ _ (T367.setTop (mkF m 159 #[rv ad, iv xk.toInt32, iv 4, rv fr, rv tv, rv b301, iv 2, rv (rs xk)] [(.int 2)]))
            refine Go.st (fun _ => XS.iconst X367.here C.hx rfl (hb C.hby d3_159)) ?_
            show Go p e below s n0 _ _ _ (T367.setTop (mkF m 160 #[rv ad, iv xk.toInt32, iv 4, rv fr, rv tv, rv b301, iv 2, rv (rs xk)] [(.int 3), (.int 2)]))
            refine Go.icmp_lt C X367 (pc' := 174) d3_160 (by decide) (by decide) (fun _ => ?_) (fun hc => absurd hc (by decide))
            show Go p e below s n0 _ _ _ (T367.setTop (mkF m 174 #[rv ad, iv xk.toInt32, iv 4, rv fr, rv tv, rv b301, iv 2, rv (rs xk)] []))
            refine Go.st (fun _ => XS.iload X367.here C.hx rfl (hb C.hby d3_174) rfl) ?_
            show Go p e below s n0 _ _ _ (T367.setTop (mkF m 176 #[rv ad, iv xk.toInt32, iv 4, rv fr, rv tv, rv b301, iv 2, rv (rs xk)] [(.int 2)]))
            refine Go.st (fun _ => XS.iconst X367.here C.hx rfl (hb C.hby d3_176)) ?_
            show Go p e below s n0 _ _ _ (T367.setTop (mkF m 177 #[rv ad, iv xk.toInt32, iv 4, rv fr, rv tv, rv b301, iv 2, rv (rs xk)] [(.int 4), (.int 2)]))
            refine Go.icmp_lt C X367 (pc' := 191) d3_177 (by decide) (by decide) (fun _ => ?_) (fun hc => absurd hc (by decide))
            show Go p e below s n0 _ _ _ (T367.setTop (mkF m 191 #[rv ad, iv xk.toInt32, iv 4, rv fr, rv tv, rv b301, iv 2, rv (rs xk)] []))
            refine Go.st (fun _ => XS.iconst X367.here C.hx rfl (hb C.hby d3_191)) ?_
            show Go p e below s n0 _ _ _ (T367.setTop (mkF m 192 #[rv ad, iv xk.toInt32, iv 4, rv fr, rv tv, rv b301, iv 2, rv (rs xk)] [(.int 1)]))
            refine Go.st (fun _ => XS.goto X367.here C.hx rfl (pc0 := 192) (pc' := 196) rfl (hb C.hby d3_192) (by decide) (by decide)) ?_
            show Go p e below s n0 _ _ _ (T367.setTop (mkF m 196 #[rv ad, iv xk.toInt32, iv 4, rv fr, rv tv, rv b301, iv 2, rv (rs xk)] [(.int 1)]))
            exact Go.retZ C X367 (by decide) d3_196 ⟨rfl, K367⟩ (by decide) (by decide)
          · show Go p e below s n0 _ _ _ (T367.setTop (mkF m 91 #[rv ad, iv xk.toInt32, iv 4, rv fr, rv tv, rv b301, iv 2, .unset] []))
            refine Go.st (fun _ => XS.aload X367.here C.hx rfl (hb C.hby d3_91) rfl rfl) ?_
            show Go p e below s n0 _ _ _ (T367.setTop (mkF m 93 #[rv ad, iv xk.toInt32, iv 4, rv fr, rv tv, rv b301, iv 2, .unset] [(.ref b301)]))
            refine Go.st (fun _ => XS.iload X367.here C.hx rfl (hb C.hby d3_93) rfl) ?_
            show Go p e below s n0 _ _ _ (T367.setTop (mkF m 95 #[rv ad, iv xk.toInt32, iv 4, rv fr, rv tv, rv b301, iv 2, .unset] [(.int 2), (.ref b301)]))
            refine Go.st (fun _ => XS.aload X367.here C.hx rfl (hb C.hby d3_95) rfl rfl) ?_
            show Go p e below s n0 _ _ _ (T367.setTop (mkF m 97 #[rv ad, iv xk.toInt32, iv 4, rv fr, rv tv, rv b301, iv 2, .unset] [(.ref tv), (.int 2), (.ref b301)]))
            refine Go.st (fun _ => XS.iconst X367.here C.hx rfl (hb C.hby d3_97)) ?_
            show Go p e below s n0 _ _ _ (T367.setTop (mkF m 98 #[rv ad, iv xk.toInt32, iv 4, rv fr, rv tv, rv b301, iv 2, .unset] [(.int 3), (.ref tv), (.int 2), (.ref b301)]))
            refine Go.iaload C X367 AT__370 (by decide) rfl d3_98 ?_
            show Go p e below s n0 _ _ _ (T367.setTop (mkF m 99 #[rv ad, iv xk.toInt32, iv 4, rv fr, rv tv, rv b301, iv 2, .unset] [(.int t3), (.int 2), (.ref b301)]))
            refine Go.iastore C X367 A_367 (by decide) (Nat.le_of_ble_eq_true rfl) ge301 d3_99 (fun T380 h380 X380 W380 A380 => ?_)
            have A_380 : AR Z h380 b301 .int [(.int t1), (.int t2), (.int t3), (.int 0)] := A380
            have AX_381 : AR Z h380 (rs xk) .int ((rowP (fsF g0 g1 g2 g3) (tsF t0 t1 t2 t3) 4 4 xk).map Value.int) := ((AX_345.other W367 ne__rs_xk__b301).other W380 ne__rs_xk__b301)
            have K380 : Keep h0 h380 [] := K367.wr W380 (Or.inr old_b301)
            show Go p e below s n0 _ _ _ (T380.setTop (mkF m 100 #[rv ad, iv xk.toInt32, iv 4, rv fr, rv tv, rv b301, iv 2, .unset] []))
            refine Go.st (fun _ => XS.iinc X380.here C.hx rfl (hb C.hby d3_100) rfl (l' := #[rv ad, iv xk.toInt32, iv 4, rv fr, rv tv, rv b301, iv 3, .unset]) rfl) ?_
            have p0 := eq_false (fun u : xk = g0 => hc16_303 ((eqI (by omega) (by omega)).mpr u.symm))
            have p1 := eq_true ((eqI (by omega) (by omega)).mp hc40_305).symm
            have p2 := eq_true ((eqI (by omega) (by omega)).mp hc64_347).symm
            have p3 := eq_true ((eqI (by omega) (by omega)).mp hc88_372).symm
            have RL : rowP (fsF g0 g1 g2 g3) (tsF t0 t1 t2 t3) 4 4 xk = [t1, t2, t3] := by
              simp only [rowP, cnt, fsF0, tsF0, fsF1, tsF1, fsF2, tsF2, fsF3, tsF3, p0, p1, p2, p3, if_true, if_false]
              try rfl
            have AXX : AR Z h380 (rs xk) .int [(.int t1), (.int t2), (.int t3)] := by have u := AX_381; rw [RL] at u; exact u
            show Go p e below s n0 _ _ _ (T380.setTop (mkF m 103 #[rv ad, iv xk.toInt32, iv 4, rv fr, rv tv, rv b301, iv 3, .unset] []))
            refine Go.st (fun _ => XS.aloadN X380.here C.hx rfl (hb C.hby d3_103) rfl rfl) ?_
            show Go p e below s n0 _ _ _ (T380.setTop (mkF m 104 #[rv ad, iv xk.toInt32, iv 4, rv fr, rv tv, rv b301, iv 3, .unset] [(.ref ad)]))
            refine Go.st (fun _ => XS.iloadN X380.here C.hx rfl (hb C.hby d3_104) rfl) ?_
            show Go p e below s n0 _ _ _ (T380.setTop (mkF m 105 #[rv ad, iv xk.toInt32, iv 4, rv fr, rv tv, rv b301, iv 3, .unset] [(.int xk.toInt32), (.ref ad)]))
            refine Go.aaload C X380 ((O_368.other W380 ne_ad_b301)).ar rfl (nn32 (by omega)) (ou_get hc hx) d3_105 ?_
            show Go p e below s n0 _ _ _ (T380.setTop (mkF m 106 #[rv ad, iv xk.toInt32, iv 4, rv fr, rv tv, rv b301, iv 3, .unset] [(.ref (rs xk))]))
            refine Go.st (fun _ => XS.astore X380.here C.hx rfl (hb C.hby d3_106) rfl rfl (l' := #[rv ad, iv xk.toInt32, iv 4, rv fr, rv tv, rv b301, iv 3, rv (rs xk)]) rfl) ?_
            show Go p e below s n0 _ _ _ (T380.setTop (mkF m 108 #[rv ad, iv xk.toInt32, iv 4, rv fr, rv tv, rv b301, iv 3, rv (rs xk)] []))
            refine Go.st (fun _ => XS.aload X380.here C.hx rfl (hb C.hby d3_108) rfl rfl) ?_
            show Go p e below s n0 _ _ _ (T380.setTop (mkF m 110 #[rv ad, iv xk.toInt32, iv 4, rv fr, rv tv, rv b301, iv 3, rv (rs xk)] [(.ref (rs xk))]))
            refine Go.st (fun _ => XS.ifnullNo X380.here C.hx rfl (hb C.hby d3_110) rfl) ?_
            show Go p e below s n0 _ _ _ (T380.setTop (mkF m 113 #[rv ad, iv xk.toInt32, iv 4, rv fr, rv tv, rv b301, iv 3, rv (rs xk)] []))
            refine Go.st (fun _ => XS.aload X380.here C.hx rfl (hb C.hby d3_113) rfl rfl) ?_
            show Go p e below s n0 _ _ _ (T380.setTop (mkF m 115 #[rv ad, iv xk.toInt32, iv 4, rv fr, rv tv, rv b301, iv 3, rv (rs xk)] [(.ref (rs xk))]))
            refine Go.alen C X380 AXX (z := (3 : Int32)) rfl d3_115 ?_
            show Go p e below s n0 _ _ _ (T380.setTop (mkF m 116 #[rv ad, iv xk.toInt32, iv 4, rv fr, rv tv, rv b301, iv 3, rv (rs xk)] [(.int 3)]))
            refine Go.st (fun _ => XS.iload X380.here C.hx rfl (hb C.hby d3_116) rfl) ?_
            show Go p e below s n0 _ _ _ (T380.setTop (mkF m 118 #[rv ad, iv xk.toInt32, iv 4, rv fr, rv tv, rv b301, iv 3, rv (rs xk)] [(.int 3), (.int 3)]))
            refine Go.icmp_eq C X380 (pc' := 123) d3_118 (by decide) (by decide) (fun _ => ?_) (fun hc => absurd hc (by decide))
            show Go p e below s n0 _ _ _ (T380.setTop (mkF m 123 #[rv ad, iv xk.toInt32, iv 4, rv fr, rv tv, rv b301, iv 3, rv (rs xk)] []))
            refine Go.st (fun _ => XS.iload X380.here C.hx rfl (hb C.hby d3_123) rfl) ?_
            show Go p e below s n0 _ _ _ (T380.setTop (mkF m 125 #[rv ad, iv xk.toInt32, iv 4, rv fr, rv tv, rv b301, iv 3, rv (rs xk)] [(.int 3)]))
            refine Go.st (fun _ => XS.iconst X380.here C.hx rfl (hb C.hby d3_125)) ?_
            show Go p e below s n0 _ _ _ (T380.setTop (mkF m 126 #[rv ad, iv xk.toInt32, iv 4, rv fr, rv tv, rv b301, iv 3, rv (rs xk)] [(.int 1), (.int 3)]))
            refine Go.icmp_lt C X380 (pc' := 140) d3_126 (by decide) (by decide) (fun hc => absurd hc (by decide)) (fun _ => ?_)
            show Go p e below s n0 _ _ _ (T380.setTop (mkF m 129 #[rv ad, iv xk.toInt32, iv 4, rv fr, rv tv, rv b301, iv 3, rv (rs xk)] []))
            refine Go.st (fun _ => XS.aload X380.here C.hx rfl (hb C.hby d3_129) rfl rfl) ?_
            show Go p e below s n0 _ _ _ (T380.setTop (mkF m 131 #[rv ad, iv xk.toInt32, iv 4, rv fr, rv tv, rv b301, iv 3, rv (rs xk)] [(.ref (rs xk))]))
            refine Go.st (fun _ => XS.iconst X380.here C.hx rfl (hb C.hby d3_131)) ?_
            show Go p e below s n0 _ _ _ (T380.setTop (mkF m 132 #[rv ad, iv xk.toInt32, iv 4, rv fr, rv tv, rv b301, iv 3, rv (rs xk)] [(.int 0), (.ref (rs xk))]))
            refine Go.iaload C X380 AXX (by decide) rfl d3_132 ?_
            show Go p e below s n0 _ _ _ (T380.setTop (mkF m 133 #[rv ad, iv xk.toInt32, iv 4, rv fr, rv tv, rv b301, iv 3, rv (rs xk)] [(.int t1)]))
            refine Go.st (fun _ => XS.aload X380.here C.hx rfl (hb C.hby d3_133) rfl rfl) ?_
            show Go p e below s n0 _ _ _ (T380.setTop (mkF m 135 #[rv ad, iv xk.toInt32, iv 4, rv fr, rv tv, rv b301, iv 3, rv (rs xk)] [(.ref b301), (.int t1)]))
            refine Go.st (fun _ => XS.iconst X380.here C.hx rfl (hb C.hby d3_135)) ?_
            show Go p e below s n0 _ _ _ (T380.setTop (mkF m 136 #[rv ad, iv xk.toInt32, iv 4, rv fr, rv tv, rv b301, iv 3, rv (rs xk)] [(.int 0), (.ref b301), (.int t1)]))
            refine Go.iaload C X380 A_380 (by decide) rfl d3_136 ?_
            show Go p e below s n0 _ _ _ (T380.setTop (mkF m 137 #[rv ad, iv xk.toInt32, iv 4, rv fr, rv tv, rv b301, iv 3, rv (rs xk)] [(.int t1), (.int t1)]))
            refine Go.icmp_ne C X380 (pc' := 195) d3_137 (by decide) (by decide) (fun hc => by first | exact absurd hc rfl | exact absurd rfl hc) (fun _ => ?_)
            show Go p e below s n0 _ _ _ (T380.setTop (mkF m 140 #[rv ad, iv xk.toInt32, iv 4, rv fr, rv tv, rv b301, iv 3, rv (rs xk)] []))
            refine Go.st (fun _ => XS.iload X380.here C.hx rfl (hb C.hby d3_140) rfl) ?_
            show Go p e below s n0 _ _ _ (T380.setTop (mkF m 142 #[rv ad, iv xk.toInt32, iv 4, rv fr, rv tv, rv b301, iv 3, rv (rs xk)] [(.int 3)]))
            refine Go.st (fun _ => XS.iconst X380.here C.hx rfl (hb C.hby d3_142)) ?_
            show Go p e below s n0 _ _ _ (T380.setTop (mkF m 143 #[rv ad, iv xk.toInt32, iv 4, rv fr, rv tv, rv b301, iv 3, rv (rs xk)] [(.int 2), (.int 3)]))
            refine Go.icmp_lt C X380 (pc' := 157) d3_143 (by decide) (by decide) (fun hc => absurd hc (by decide)) (fun _ => ?_)
            show Go p e below s n0 _ _ _ (T380.setTop (mkF m 146 #[rv ad, iv xk.toInt32, iv 4, rv fr, rv tv, rv b301, iv 3, rv (rs xk)] []))
            refine Go.st (fun _ => XS.aload X380.here C.hx rfl (hb C.hby d3_146) rfl rfl) ?_
            show Go p e below s n0 _ _ _ (T380.setTop (mkF m 148 #[rv ad, iv xk.toInt32, iv 4, rv fr, rv tv, rv b301, iv 3, rv (rs xk)] [(.ref (rs xk))]))
            refine Go.st (fun _ => XS.iconst X380.here C.hx rfl (hb C.hby d3_148)) ?_
            show Go p e below s n0 _ _ _ (T380.setTop (mkF m 149 #[rv ad, iv xk.toInt32, iv 4, rv fr, rv tv, rv b301, iv 3, rv (rs xk)] [(.int 1), (.ref (rs xk))]))
            refine Go.iaload C X380 AXX (by decide) rfl d3_149 ?_
            show Go p e below s n0 _ _ _ (T380.setTop (mkF m 150 #[rv ad, iv xk.toInt32, iv 4, rv fr, rv tv, rv b301, iv 3, rv (rs xk)] [(.int t2)]))
            refine Go.st (fun _ => XS.aload X380.here C.hx rfl (hb C.hby d3_150) rfl rfl) ?_
            show Go p e below s n0 _ _ _ (T380.setTop (mkF m 152 #[rv ad, iv xk.toInt32, iv 4, rv fr, rv tv, rv b301, iv 3, rv (rs xk)] [(.ref b301), (.int t2)]))
            refine Go.st (fun _ => XS.iconst X380.here C.hx rfl (hb C.hby d3_152)) ?_
            show Go p e below s n0 _ _ _ (T380.setTop (mkF m 153 #[rv ad, iv xk.toInt32, iv 4, rv fr, rv tv, rv b301, iv 3, rv (rs xk)] [(.int 1), (.ref b301), (.int t2)]))
            refine Go.iaload C X380 A_380 (by decide) rfl d3_153 ?_
            show Go p e below s n0 _ _ _ (T380.setTop (mkF m 154 #[rv ad, iv xk.toInt32, iv 4, rv fr, rv tv, rv b301, iv 3, rv (rs xk)] [(.int t2), (.int t2)]))
            refine Go.icmp_ne C X380 (pc' := 195) d3_154 (by decide) (by decide) (fun hc => by first | exact absurd hc rfl | exact absurd rfl hc) (fun _ => ?_)
            show Go p e below s n0 _ _ _ (T380.setTop (mkF m 157 #[rv ad, iv xk.toInt32, iv 4, rv fr, rv tv, rv b301, iv 3, rv (rs xk)] []))
            refine Go.st (fun _ => XS.iload X380.here C.hx rfl (hb C.hby d3_157) rfl) ?_
            show Go p e below s n0 _ _ _ (T380.setTop (mkF m 159 #[rv ad, iv xk.toInt32, iv 4, rv fr, rv tv, rv b301, iv 3, rv (rs xk)] [(.int 3)]))
            refine Go.st (fun _ => XS.iconst X380.here C.hx rfl (hb C.hby d3_159)) ?_
            show Go p e below s n0 _ _ _ (T380.setTop (mkF m 160 #[rv ad, iv xk.toInt32, iv 4, rv fr, rv tv, rv b301, iv 3, rv (rs xk)] [(.int 3), (.int 3)]))
            refine Go.icmp_lt C X380 (pc' := 174) d3_160 (by decide) (by decide) (fun hc => absurd hc (by decide)) (fun _ => ?_)
            show Go p e below s n0 _ _ _ (T380.setTop (mkF m 163 #[rv ad, iv xk.toInt32, iv 4, rv fr, rv tv, rv b301, iv 3, rv (rs xk)] []))
            refine Go.st (fun _ => XS.aload X380.here C.hx rfl (hb C.hby d3_163) rfl rfl) ?_
            show Go p e below s n0 _ _ _ (T380.setTop (mkF m 165 #[rv ad, iv xk.toInt32, iv 4, rv fr, rv tv, rv b301, iv 3, rv (rs xk)] [(.ref (rs xk))]))
            refine Go.st (fun _ => XS.iconst X380.here C.hx rfl (hb C.hby d3_165)) ?_
            show Go p e below s n0 _ _ _ (T380.setTop (mkF m 166 #[rv ad, iv xk.toInt32, iv 4, rv fr, rv tv, rv b301, iv 3, rv (rs xk)] [(.int 2), (.ref (rs xk))]))
            refine Go.iaload C X380 AXX (by decide) rfl d3_166 ?_
            show Go p e below s n0 _ _ _ (T380.setTop (mkF m 167 #[rv ad, iv xk.toInt32, iv 4, rv fr, rv tv, rv b301, iv 3, rv (rs xk)] [(.int t3)]))
            refine Go.st (fun _ => XS.aload X380.here C.hx rfl (hb C.hby d3_167) rfl rfl) ?_
            show Go p e below s n0 _ _ _ (T380.setTop (mkF m 169 #[rv ad, iv xk.toInt32, iv 4, rv fr, rv tv, rv b301, iv 3, rv (rs xk)] [(.ref b301), (.int t3)]))
            refine Go.st (fun _ => XS.iconst X380.here C.hx rfl (hb C.hby d3_169)) ?_
            show Go p e below s n0 _ _ _ (T380.setTop (mkF m 170 #[rv ad, iv xk.toInt32, iv 4, rv fr, rv tv, rv b301, iv 3, rv (rs xk)] [(.int 2), (.ref b301), (.int t3)]))
            refine Go.iaload C X380 A_380 (by decide) rfl d3_170 ?_
            show Go p e below s n0 _ _ _ (T380.setTop (mkF m 171 #[rv ad, iv xk.toInt32, iv 4, rv fr, rv tv, rv b301, iv 3, rv (rs xk)] [(.int t3), (.int t3)]))
            refine Go.icmp_ne C X380 (pc' := 195) d3_171 (by decide) (by decide) (fun hc => by first | exact absurd hc rfl | exact absurd rfl hc) (fun _ => ?_)
            show Go p e below s n0 _ _ _ (T380.setTop (mkF m 174 #[rv ad, iv xk.toInt32, iv 4, rv fr, rv tv, rv b301, iv 3, rv (rs xk)] []))
            refine Go.st (fun _ => XS.iload X380.here C.hx rfl (hb C.hby d3_174) rfl) ?_
            show Go p e below s n0 _ _ _ (T380.setTop (mkF m 176 #[rv ad, iv xk.toInt32, iv 4, rv fr, rv tv, rv b301, iv 3, rv (rs xk)] [(.int 3)]))
            refine Go.st (fun _ => XS.iconst X380.here C.hx rfl (hb C.hby d3_176)) ?_
            show Go p e below s n0 _ _ _ (T380.setTop (mkF m 177 #[rv ad, iv xk.toInt32, iv 4, rv fr, rv tv, rv b301, iv 3, rv (rs xk)] [(.int 4), (.int 3)]))
            refine Go.icmp_lt C X380 (pc' := 191) d3_177 (by decide) (by decide) (fun _ => ?_) (fun hc => absurd hc (by decide))
            show Go p e below s n0 _ _ _ (T380.setTop (mkF m 191 #[rv ad, iv xk.toInt32, iv 4, rv fr, rv tv, rv b301, iv 3, rv (rs xk)] []))
            refine Go.st (fun _ => XS.iconst X380.here C.hx rfl (hb C.hby d3_191)) ?_
            show Go p e below s n0 _ _ _ (T380.setTop (mkF m 192 #[rv ad, iv xk.toInt32, iv 4, rv fr, rv tv, rv b301, iv 3, rv (rs xk)] [(.int 1)]))
            refine Go.st (fun _ => XS.goto X380.here C.hx rfl (pc0 := 192) (pc' := 196) rfl (hb C.hby d3_192) (by decide) (by decide)) ?_
            show Go p e below s n0 _ _ _ (T380.setTop (mkF m 196 #[rv ad, iv xk.toInt32, iv 4, rv fr, rv tv, rv b301, iv 3, rv (rs xk)] [(.int 1)]))
            exact Go.retZ C X380 (by decide) d3_196 ⟨rfl, K380⟩ (by decide) (by decide)
    · show Go p e below s n0 _ _ _ (T301.setTop (mkF m 19 #[rv ad, iv xk.toInt32, iv 4, rv fr, rv tv, rv b301, iv 0, .unset] []))
      refine Go.st (fun _ => XS.aload X301.here C.hx rfl (hb C.hby d3_19) rfl rfl) ?_
      show Go p e below s n0 _ _ _ (T301.setTop (mkF m 21 #[rv ad, iv xk.toInt32, iv 4, rv fr, rv tv, rv b301, iv 0, .unset] [(.ref b301)]))
      refine Go.st (fun _ => XS.iload X301.here C.hx rfl (hb C.hby d3_21) rfl) ?_
      show Go p e below s n0 _ _ _ (T301.setTop (mkF m 23 #[rv ad, iv xk.toInt32, iv 4, rv fr, rv tv, rv b301, iv 0, .unset] [(.int 0), (.ref b301)]))
      refine Go.st (fun _ => XS.aload X301.here C.hx rfl (hb C.hby d3_23) rfl rfl) ?_
      show Go p e below s n0 _ _ _ (T301.setTop (mkF m 25 #[rv ad, iv xk.toInt32, iv 4, rv fr, rv tv, rv b301, iv 0, .unset] [(.ref tv), (.int 0), (.ref b301)]))
      refine Go.st (fun _ => XS.iconst X301.here C.hx rfl (hb C.hby d3_25)) ?_
      show Go p e below s n0 _ _ _ (T301.setTop (mkF m 26 #[rv ad, iv xk.toInt32, iv 4, rv fr, rv tv, rv b301, iv 0, .unset] [(.int 0), (.ref tv), (.int 0), (.ref b301)]))
      refine Go.iaload C X301 (AT_.ext E301) (by decide) rfl d3_26 ?_
      show Go p e below s n0 _ _ _ (T301.setTop (mkF m 27 #[rv ad, iv xk.toInt32, iv 4, rv fr, rv tv, rv b301, iv 0, .unset] [(.int t0), (.int 0), (.ref b301)]))
      refine Go.iastore C X301 A_b301 (by decide) (Nat.le_of_ble_eq_true rfl) ge301 d3_27 (fun T390 h390 X390 W390 A390 => ?_)
      have A_390 : AR Z h390 b301 .int [(.int t0), (.int 0), (.int 0), (.int 0)] := A390
      have AX_391 : AR Z h390 (rs xk) .int ((rowP (fsF g0 g1 g2 g3) (tsF t0 t1 t2 t3) 4 4 xk).map Value.int) := ((AX.ext E301).other W390 ne__rs_xk__b301)
      have K390 : Keep h0 h390 [] := K301.wr W390 (Or.inr old_b301)
      show Go p e below s n0 _ _ _ (T390.setTop (mkF m 28 #[rv ad, iv xk.toInt32, iv 4, rv fr, rv tv, rv b301, iv 0, .unset] []))
      refine Go.st (fun _ => XS.iinc X390.here C.hx rfl (hb C.hby d3_28) rfl (l' := #[rv ad, iv xk.toInt32, iv 4, rv fr, rv tv, rv b301, iv 1, .unset]) rfl) ?_
      show Go p e below s n0 _ _ _ (T390.setTop (mkF m 31 #[rv ad, iv xk.toInt32, iv 4, rv fr, rv tv, rv b301, iv 1, .unset] []))
      refine Go.st (fun _ => XS.iloadN X390.here C.hx rfl (hb C.hby d3_31) rfl) ?_
      show Go p e below s n0 _ _ _ (T390.setTop (mkF m 32 #[rv ad, iv xk.toInt32, iv 4, rv fr, rv tv, rv b301, iv 1, .unset] [(.int 4)]))
      refine Go.st (fun _ => XS.iconst X390.here C.hx rfl (hb C.hby d3_32)) ?_
      show Go p e below s n0 _ _ _ (T390.setTop (mkF m 33 #[rv ad, iv xk.toInt32, iv 4, rv fr, rv tv, rv b301, iv 1, .unset] [(.int 1), (.int 4)]))
      refine Go.icmp_le C X390 (pc' := 55) d3_33 (by decide) (by decide) (fun hc => absurd hc (by decide)) (fun _ => ?_)
      show Go p e below s n0 _ _ _ (T390.setTop (mkF m 36 #[rv ad, iv xk.toInt32, iv 4, rv fr, rv tv, rv b301, iv 1, .unset] []))
      refine Go.st (fun _ => XS.aloadN X390.here C.hx rfl (hb C.hby d3_36) rfl rfl) ?_
      show Go p e below s n0 _ _ _ (T390.setTop (mkF m 37 #[rv ad, iv xk.toInt32, iv 4, rv fr, rv tv, rv b301, iv 1, .unset] [(.ref fr)]))
      refine Go.st (fun _ => XS.iconst X390.here C.hx rfl (hb C.hby d3_37)) ?_
      show Go p e below s n0 _ _ _ (T390.setTop (mkF m 38 #[rv ad, iv xk.toInt32, iv 4, rv fr, rv tv, rv b301, iv 1, .unset] [(.int 1), (.ref fr)]))
      refine Go.iaload C X390 ((AF_.ext E301).other W390 ne_fr_b301) (by decide) rfl d3_38 ?_
      show Go p e below s n0 _ _ _ (T390.setTop (mkF m 39 #[rv ad, iv xk.toInt32, iv 4, rv fr, rv tv, rv b301, iv 1, .unset] [(.int g1.toInt32)]))
      refine Go.st (fun _ => XS.iloadN X390.here C.hx rfl (hb C.hby d3_39) rfl) ?_
      show Go p e below s n0 _ _ _ (T390.setTop (mkF m 40 #[rv ad, iv xk.toInt32, iv 4, rv fr, rv tv, rv b301, iv 1, .unset] [(.int xk.toInt32), (.int g1.toInt32)]))
      refine Go.icmp_ne C X390 (pc' := 55) d3_40 (by decide) (by decide) (fun hc40_393 => ?_) (fun hc40_393 => ?_)
      · show Go p e below s n0 _ _ _ (T390.setTop (mkF m 55 #[rv ad, iv xk.toInt32, iv 4, rv fr, rv tv, rv b301, iv 1, .unset] []))
        refine Go.st (fun _ => XS.iloadN X390.here C.hx rfl (hb C.hby d3_55) rfl) ?_
        show Go p e below s n0 _ _ _ (T390.setTop (mkF m 56 #[rv ad, iv xk.toInt32, iv 4, rv fr, rv tv, rv b301, iv 1, .unset] [(.int 4)]))
        refine Go.st (fun _ => XS.iconst X390.here C.hx rfl (hb C.hby d3_56)) ?_
        show Go p e below s n0 _ _ _ (T390.setTop (mkF m 57 #[rv ad, iv xk.toInt32, iv 4, rv fr, rv tv, rv b301, iv 1, .unset] [(.int 2), (.int 4)]))
        refine Go.icmp_le C X390 (pc' := 79) d3_57 (by decide) (by decide) (fun hc => absurd hc (by decide)) (fun _ => ?_)
        show Go p e below s n0 _ _ _ (T390.setTop (mkF m 60 #[rv ad, iv xk.toInt32, iv 4, rv fr, rv tv, rv b301, iv 1, .unset] []))
        refine Go.st (fun _ => XS.aloadN X390.here C.hx rfl (hb C.hby d3_60) rfl rfl) ?_
        show Go p e below s n0 _ _ _ (T390.setTop (mkF m 61 #[rv ad, iv xk.toInt32, iv 4, rv fr, rv tv, rv b301, iv 1, .unset] [(.ref fr)]))
        refine Go.st (fun _ => XS.iconst X390.here C.hx rfl (hb C.hby d3_61)) ?_
        show Go p e below s n0 _ _ _ (T390.setTop (mkF m 62 #[rv ad, iv xk.toInt32, iv 4, rv fr, rv tv, rv b301, iv 1, .unset] [(.int 2), (.ref fr)]))
        refine Go.iaload C X390 ((AF_.ext E301).other W390 ne_fr_b301) (by decide) rfl d3_62 ?_
        show Go p e below s n0 _ _ _ (T390.setTop (mkF m 63 #[rv ad, iv xk.toInt32, iv 4, rv fr, rv tv, rv b301, iv 1, .unset] [(.int g2.toInt32)]))
        refine Go.st (fun _ => XS.iloadN X390.here C.hx rfl (hb C.hby d3_63) rfl) ?_
        show Go p e below s n0 _ _ _ (T390.setTop (mkF m 64 #[rv ad, iv xk.toInt32, iv 4, rv fr, rv tv, rv b301, iv 1, .unset] [(.int xk.toInt32), (.int g2.toInt32)]))
        refine Go.icmp_ne C X390 (pc' := 79) d3_64 (by decide) (by decide) (fun hc64_395 => ?_) (fun hc64_395 => ?_)
        · show Go p e below s n0 _ _ _ (T390.setTop (mkF m 79 #[rv ad, iv xk.toInt32, iv 4, rv fr, rv tv, rv b301, iv 1, .unset] []))
          refine Go.st (fun _ => XS.iloadN X390.here C.hx rfl (hb C.hby d3_79) rfl) ?_
          show Go p e below s n0 _ _ _ (T390.setTop (mkF m 80 #[rv ad, iv xk.toInt32, iv 4, rv fr, rv tv, rv b301, iv 1, .unset] [(.int 4)]))
          refine Go.st (fun _ => XS.iconst X390.here C.hx rfl (hb C.hby d3_80)) ?_
          show Go p e below s n0 _ _ _ (T390.setTop (mkF m 81 #[rv ad, iv xk.toInt32, iv 4, rv fr, rv tv, rv b301, iv 1, .unset] [(.int 3), (.int 4)]))
          refine Go.icmp_le C X390 (pc' := 103) d3_81 (by decide) (by decide) (fun hc => absurd hc (by decide)) (fun _ => ?_)
          show Go p e below s n0 _ _ _ (T390.setTop (mkF m 84 #[rv ad, iv xk.toInt32, iv 4, rv fr, rv tv, rv b301, iv 1, .unset] []))
          refine Go.st (fun _ => XS.aloadN X390.here C.hx rfl (hb C.hby d3_84) rfl rfl) ?_
          show Go p e below s n0 _ _ _ (T390.setTop (mkF m 85 #[rv ad, iv xk.toInt32, iv 4, rv fr, rv tv, rv b301, iv 1, .unset] [(.ref fr)]))
          refine Go.st (fun _ => XS.iconst X390.here C.hx rfl (hb C.hby d3_85)) ?_
          show Go p e below s n0 _ _ _ (T390.setTop (mkF m 86 #[rv ad, iv xk.toInt32, iv 4, rv fr, rv tv, rv b301, iv 1, .unset] [(.int 3), (.ref fr)]))
          refine Go.iaload C X390 ((AF_.ext E301).other W390 ne_fr_b301) (by decide) rfl d3_86 ?_
          show Go p e below s n0 _ _ _ (T390.setTop (mkF m 87 #[rv ad, iv xk.toInt32, iv 4, rv fr, rv tv, rv b301, iv 1, .unset] [(.int g3.toInt32)]))
          refine Go.st (fun _ => XS.iloadN X390.here C.hx rfl (hb C.hby d3_87) rfl) ?_
          show Go p e below s n0 _ _ _ (T390.setTop (mkF m 88 #[rv ad, iv xk.toInt32, iv 4, rv fr, rv tv, rv b301, iv 1, .unset] [(.int xk.toInt32), (.int g3.toInt32)]))
          refine Go.icmp_ne C X390 (pc' := 103) d3_88 (by decide) (by decide) (fun hc88_397 => ?_) (fun hc88_397 => ?_)
          · have p0 := eq_true ((eqI (by omega) (by omega)).mp hc16_303).symm
            have p1 := eq_false (fun u : xk = g1 => hc40_393 ((eqI (by omega) (by omega)).mpr u.symm))
            have p2 := eq_false (fun u : xk = g2 => hc64_395 ((eqI (by omega) (by omega)).mpr u.symm))
            have p3 := eq_false (fun u : xk = g3 => hc88_397 ((eqI (by omega) (by omega)).mpr u.symm))
            have RL : rowP (fsF g0 g1 g2 g3) (tsF t0 t1 t2 t3) 4 4 xk = [t0] := by
              simp only [rowP, cnt, fsF0, tsF0, fsF1, tsF1, fsF2, tsF2, fsF3, tsF3, p0, p1, p2, p3, if_true, if_false]
              try rfl
            have AXX : AR Z h390 (rs xk) .int [(.int t0)] := by have u := AX_391; rw [RL] at u; exact u
            show Go p e below s n0 _ _ _ (T390.setTop (mkF m 103 #[rv ad, iv xk.toInt32, iv 4, rv fr, rv tv, rv b301, iv 1, .unset] []))
            refine Go.st (fun _ => XS.aloadN X390.here C.hx rfl (hb C.hby d3_103) rfl rfl) ?_
            show Go p e below s n0 _ _ _ (T390.setTop (mkF m 104 #[rv ad, iv xk.toInt32, iv 4, rv fr, rv tv, rv b301, iv 1, .unset] [(.ref ad)]))
            refine Go.st (fun _ => XS.iloadN X390.here C.hx rfl (hb C.hby d3_104) rfl) ?_
            show Go p e below s n0 _ _ _ (T390.setTop (mkF m 105 #[rv ad, iv xk.toInt32, iv 4, rv fr, rv tv, rv b301, iv 1, .unset] [(.int xk.toInt32), (.ref ad)]))
            refine Go.aaload C X390 (((O.ext E301).other W390 ne_ad_b301)).ar rfl (nn32 (by omega)) (ou_get hc hx) d3_105 ?_
            show Go p e below s n0 _ _ _ (T390.setTop (mkF m 106 #[rv ad, iv xk.toInt32, iv 4, rv fr, rv tv, rv b301, iv 1, .unset] [(.ref (rs xk))]))
            refine Go.st (fun _ => XS.astore X390.here C.hx rfl (hb C.hby d3_106) rfl rfl (l' := #[rv ad, iv xk.toInt32, iv 4, rv fr, rv tv, rv b301, iv 1, rv (rs xk)]) rfl) ?_
            show Go p e below s n0 _ _ _ (T390.setTop (mkF m 108 #[rv ad, iv xk.toInt32, iv 4, rv fr, rv tv, rv b301, iv 1, rv (rs xk)] []))
            refine Go.st (fun _ => XS.aload X390.here C.hx rfl (hb C.hby d3_108) rfl rfl) ?_
            show Go p e below s n0 _ _ _ (T390.setTop (mkF m 110 #[rv ad, iv xk.toInt32, iv 4, rv fr, rv tv, rv b301, iv 1, rv (rs xk)] [(.ref (rs xk))]))
            refine Go.st (fun _ => XS.ifnullNo X390.here C.hx rfl (hb C.hby d3_110) rfl) ?_
            show Go p e below s n0 _ _ _ (T390.setTop (mkF m 113 #[rv ad, iv xk.toInt32, iv 4, rv fr, rv tv, rv b301, iv 1, rv (rs xk)] []))
            refine Go.st (fun _ => XS.aload X390.here C.hx rfl (hb C.hby d3_113) rfl rfl) ?_
            show Go p e below s n0 _ _ _ (T390.setTop (mkF m 115 #[rv ad, iv xk.toInt32, iv 4, rv fr, rv tv, rv b301, iv 1, rv (rs xk)] [(.ref (rs xk))]))
            refine Go.alen C X390 AXX (z := (1 : Int32)) rfl d3_115 ?_
            show Go p e below s n0 _ _ _ (T390.setTop (mkF m 116 #[rv ad, iv xk.toInt32, iv 4, rv fr, rv tv, rv b301, iv 1, rv (rs xk)] [(.int 1)]))
            refine Go.st (fun _ => XS.iload X390.here C.hx rfl (hb C.hby d3_116) rfl) ?_
            show Go p e below s n0 _ _ _ (T390.setTop (mkF m 118 #[rv ad, iv xk.toInt32, iv 4, rv fr, rv tv, rv b301, iv 1, rv (rs xk)] [(.int 1), (.int 1)]))
            refine Go.icmp_eq C X390 (pc' := 123) d3_118 (by decide) (by decide) (fun _ => ?_) (fun hc => absurd hc (by decide))
            show Go p e below s n0 _ _ _ (T390.setTop (mkF m 123 #[rv ad, iv xk.toInt32, iv 4, rv fr, rv tv, rv b301, iv 1, rv (rs xk)] []))
            refine Go.st (fun _ => XS.iload X390.here C.hx rfl (hb C.hby d3_123) rfl) ?_
            show Go p e below s n0 _ _ _ (T390.setTop (mkF m 125 #[rv ad, iv xk.toInt32, iv 4, rv fr, rv tv, rv b301, iv 1, rv (rs xk)] [(.int 1)]))
            refine Go.st (fun _ => XS.iconst X390.here C.hx rfl (hb C.hby d3_125)) ?_
            show Go p e below s n0 _ _ _ (T390.setTop (mkF m 126 #[rv ad, iv xk.toInt32, iv 4, rv fr, rv tv, rv b301, iv 1, rv (rs xk)] [(.int 1), (.int 1)]))
            refine Go.icmp_lt C X390 (pc' := 140) d3_126 (by decide) (by decide) (fun hc => absurd hc (by decide)) (fun _ => ?_)
            show Go p e below s n0 _ _ _ (T390.setTop (mkF m 129 #[rv ad, iv xk.toInt32, iv 4, rv fr, rv tv, rv b301, iv 1, rv (rs xk)] []))
            refine Go.st (fun _ => XS.aload X390.here C.hx rfl (hb C.hby d3_129) rfl rfl) ?_
            show Go p e below s n0 _ _ _ (T390.setTop (mkF m 131 #[rv ad, iv xk.toInt32, iv 4, rv fr, rv tv, rv b301, iv 1, rv (rs xk)] [(.ref (rs xk))]))
            refine Go.st (fun _ => XS.iconst X390.here C.hx rfl (hb C.hby d3_131)) ?_
            show Go p e below s n0 _ _ _ (T390.setTop (mkF m 132 #[rv ad, iv xk.toInt32, iv 4, rv fr, rv tv, rv b301, iv 1, rv (rs xk)] [(.int 0), (.ref (rs xk))]))
            refine Go.iaload C X390 AXX (by decide) rfl d3_132 ?_
            show Go p e below s n0 _ _ _ (T390.setTop (mkF m 133 #[rv ad, iv xk.toInt32, iv 4, rv fr, rv tv, rv b301, iv 1, rv (rs xk)] [(.int t0)]))
            refine Go.st (fun _ => XS.aload X390.here C.hx rfl (hb C.hby d3_133) rfl rfl) ?_
            show Go p e below s n0 _ _ _ (T390.setTop (mkF m 135 #[rv ad, iv xk.toInt32, iv 4, rv fr, rv tv, rv b301, iv 1, rv (rs xk)] [(.ref b301), (.int t0)]))
            refine Go.st (fun _ => XS.iconst X390.here C.hx rfl (hb C.hby d3_135)) ?_
            show Go p e below s n0 _ _ _ (T390.setTop (mkF m 136 #[rv ad, iv xk.toInt32, iv 4, rv fr, rv tv, rv b301, iv 1, rv (rs xk)] [(.int 0), (.ref b301), (.int t0)]))
            refine Go.iaload C X390 A_390 (by decide) rfl d3_136 ?_
            show Go p e below s n0 _ _ _ (T390.setTop (mkF m 137 #[rv ad, iv xk.toInt32, iv 4, rv fr, rv tv, rv b301, iv 1, rv (rs xk)] [(.int t0), (.int t0)]))
            refine Go.icmp_ne C X390 (pc' := 195) d3_137 (by decide) (by decide) (fun hc => by first | exact absurd hc rfl | exact absurd rfl hc) (fun _ => ?_)
            show Go p e below s n0 _ _ _ (T390.setTop (mkF m 140 #[rv ad, iv xk.toInt32, iv 4, rv fr, rv tv, rv b301, iv 1, rv (rs xk)] []))
            refine Go.st (fun _ => XS.iload X390.here C.hx rfl (hb C.hby d3_140) rfl) ?_
            show Go p e below s n0 _ _ _ (T390.setTop (mkF m 142 #[rv ad, iv xk.toInt32, iv 4, rv fr, rv tv, rv b301, iv 1, rv (rs xk)] [(.int 1)]))
            refine Go.st (fun _ => XS.iconst X390.here C.hx rfl (hb C.hby d3_142)) ?_
            show Go p e below s n0 _ _ _ (T390.setTop (mkF m 143 #[rv ad, iv xk.toInt32, iv 4, rv fr, rv tv, rv b301, iv 1, rv (rs xk)] [(.int 2), (.int 1)]))
            refine Go.icmp_lt C X390 (pc' := 157) d3_143 (by decide) (by decide) (fun _ => ?_) (fun hc => absurd hc (by decide))
            show Go p e below s n0 _ _ _ (T390.setTop (mkF m 157 #[rv ad, iv xk.toInt32, iv 4, rv fr, rv tv, rv b301, iv 1, rv (rs xk)] []))
            refine Go.st (fun _ => XS.iload X390.here C.hx rfl (hb C.hby d3_157) rfl) ?_
            show Go p e below s n0 _ _ _ (T390.setTop (mkF m 159 #[rv ad, iv xk.toInt32, iv 4, rv fr, rv tv, rv b301, iv 1, rv (rs xk)] [(.int 1)]))
            refine Go.st (fun _ => XS.iconst X390.here C.hx rfl (hb C.hby d3_159)) ?_
            show Go p e below s n0 _ _ _ (T390.setTop (mkF m 160 #[rv ad, iv xk.toInt32, iv 4, rv fr, rv tv, rv b301, iv 1, rv (rs xk)] [(.int 3), (.int 1)]))
            refine Go.icmp_lt C X390 (pc' := 174) d3_160 (by decide) (by decide) (fun _ => ?_) (fun hc => absurd hc (by decide))
            show Go p e below s n0 _ _ _ (T390.setTop (mkF m 174 #[rv ad, iv xk.toInt32, iv 4, rv fr, rv tv, rv b301, iv 1, rv (rs xk)] []))
            refine Go.st (fun _ => XS.iload X390.here C.hx rfl (hb C.hby d3_174) rfl) ?_
            show Go p e below s n0 _ _ _ (T390.setTop (mkF m 176 #[rv ad, iv xk.toInt32, iv 4, rv fr, rv tv, rv b301, iv 1, rv (rs xk)] [(.int 1)]))
            refine Go.st (fun _ => XS.iconst X390.here C.hx rfl (hb C.hby d3_176)) ?_
            show Go p e below s n0 _ _ _ (T390.setTop (mkF m 177 #[rv ad, iv xk.toInt32, iv 4, rv fr, rv tv, rv b301, iv 1, rv (rs xk)] [(.int 4), (.int 1)]))
            refine Go.icmp_lt C X390 (pc' := 191) d3_177 (by decide) (by decide) (fun _ => ?_) (fun hc => absurd hc (by decide))
            show Go p e below s n0 _ _ _ (T390.setTop (mkF m 191 #[rv ad, iv xk.toInt32, iv 4, rv fr, rv tv, rv b301, iv 1, rv (rs xk)] []))
            refine Go.st (fun _ => XS.iconst X390.here C.hx rfl (hb C.hby d3_191)) ?_
            show Go p e below s n0 _ _ _ (T390.setTop (mkF m 192 #[rv ad, iv xk.toInt32, iv 4, rv fr, rv tv, rv b301, iv 1, rv (rs xk)] [(.int 1)]))
            refine Go.st (fun _ => XS.goto X390.here C.hx rfl (pc0 := 192) (pc' := 196) rfl (hb C.hby d3_192) (by decide) (by decide)) ?_
            show Go p e below s n0 _ _ _ (T390.setTop (mkF m 196 #[rv ad, iv xk.toInt32, iv 4, rv fr, rv tv, rv b301, iv 1, rv (rs xk)] [(.int 1)]))
            exact Go.retZ C X390 (by decide) d3_196 ⟨rfl, K390⟩ (by decide) (by decide)
          · show Go p e below s n0 _ _ _ (T390.setTop (mkF m 91 #[rv ad, iv xk.toInt32, iv 4, rv fr, rv tv, rv b301, iv 1, .unset] []))
            refine Go.st (fun _ => XS.aload X390.here C.hx rfl (hb C.hby d3_91) rfl rfl) ?_
            show Go p e below s n0 _ _ _ (T390.setTop (mkF m 93 #[rv ad, iv xk.toInt32, iv 4, rv fr, rv tv, rv b301, iv 1, .unset] [(.ref b301)]))
            refine Go.st (fun _ => XS.iload X390.here C.hx rfl (hb C.hby d3_93) rfl) ?_
            show Go p e below s n0 _ _ _ (T390.setTop (mkF m 95 #[rv ad, iv xk.toInt32, iv 4, rv fr, rv tv, rv b301, iv 1, .unset] [(.int 1), (.ref b301)]))
            refine Go.st (fun _ => XS.aload X390.here C.hx rfl (hb C.hby d3_95) rfl rfl) ?_
            show Go p e below s n0 _ _ _ (T390.setTop (mkF m 97 #[rv ad, iv xk.toInt32, iv 4, rv fr, rv tv, rv b301, iv 1, .unset] [(.ref tv), (.int 1), (.ref b301)]))
            refine Go.st (fun _ => XS.iconst X390.here C.hx rfl (hb C.hby d3_97)) ?_
            show Go p e below s n0 _ _ _ (T390.setTop (mkF m 98 #[rv ad, iv xk.toInt32, iv 4, rv fr, rv tv, rv b301, iv 1, .unset] [(.int 3), (.ref tv), (.int 1), (.ref b301)]))
            refine Go.iaload C X390 ((AT_.ext E301).other W390 ne_tv_b301) (by decide) rfl d3_98 ?_
            show Go p e below s n0 _ _ _ (T390.setTop (mkF m 99 #[rv ad, iv xk.toInt32, iv 4, rv fr, rv tv, rv b301, iv 1, .unset] [(.int t3), (.int 1), (.ref b301)]))
            refine Go.iastore C X390 A_390 (by decide) (Nat.le_of_ble_eq_true rfl) ge301 d3_99 (fun T404 h404 X404 W404 A404 => ?_)
            have A_404 : AR Z h404 b301 .int [(.int t0), (.int t3), (.int 0), (.int 0)] := A404
            have O_405 : AO Z h404 ad (ouV cc cc rs) := (((O.ext E301).other W390 ne_ad_b301).other W404 ne_ad_b301)
            have AF__406 : AR Z h404 fr .int [(.int g0.toInt32), (.int g1.toInt32), (.int g2.toInt32), (.int g3.toInt32)] := (((AF_.ext E301).other W390 ne_fr_b301).other W404 ne_fr_b301)
            have AT__407 : AR Z h404 tv .int [(.int t0), (.int t1), (.int t2), (.int t3)] := (((AT_.ext E301).other W390 ne_tv_b301).other W404 ne_tv_b301)
            have K404 : Keep h0 h404 [] := K390.wr W404 (Or.inr old_b301)
            show Go p e below s n0 _ _ _ (T404.setTop (mkF m 100 #[rv ad, iv xk.toInt32, iv 4, rv fr, rv tv, rv b301, iv 1, .unset] []))
            refine Go.st (fun _ => XS.iinc X404.here C.hx rfl (hb C.hby d3_100) rfl (l' := #[rv ad, iv xk.toInt32, iv 4, rv fr, rv tv, rv b301, iv 2, .unset]) rfl) ?_
            have p0 := eq_true ((eqI (by omega) (by omega)).mp hc16_303).symm
            have p1 := eq_false (fun u : xk = g1 => hc40_393 ((eqI (by omega) (by omega)).mpr u.symm))
            have p2 := eq_false (fun u : xk = g2 => hc64_395 ((eqI (by omega) (by omega)).mpr u.symm))
            have p3 := eq_true ((eqI (by omega) (by omega)).mp hc88_397).symm
            have RL : rowP (fsF g0 g1 g2 g3) (tsF t0 t1 t2 t3) 4 4 xk = [t0, t3] := by
              simp only [rowP, cnt, fsF0, tsF0, fsF1, tsF1, fsF2, tsF2, fsF3, tsF3, p0, p1, p2, p3, if_true, if_false]
              try rfl
            have AXX : AR Z h404 (rs xk) .int [(.int t0), (.int t3)] := by have u := (AX_391.other W404 ne__rs_xk__b301); rw [RL] at u; exact u
            show Go p e below s n0 _ _ _ (T404.setTop (mkF m 103 #[rv ad, iv xk.toInt32, iv 4, rv fr, rv tv, rv b301, iv 2, .unset] []))
            refine Go.st (fun _ => XS.aloadN X404.here C.hx rfl (hb C.hby d3_103) rfl rfl) ?_
            show Go p e below s n0 _ _ _ (T404.setTop (mkF m 104 #[rv ad, iv xk.toInt32, iv 4, rv fr, rv tv, rv b301, iv 2, .unset] [(.ref ad)]))
            refine Go.st (fun _ => XS.iloadN X404.here C.hx rfl (hb C.hby d3_104) rfl) ?_
            show Go p e below s n0 _ _ _ (T404.setTop (mkF m 105 #[rv ad, iv xk.toInt32, iv 4, rv fr, rv tv, rv b301, iv 2, .unset] [(.int xk.toInt32), (.ref ad)]))
            refine Go.aaload C X404 (O_405).ar rfl (nn32 (by omega)) (ou_get hc hx) d3_105 ?_
            show Go p e below s n0 _ _ _ (T404.setTop (mkF m 106 #[rv ad, iv xk.toInt32, iv 4, rv fr, rv tv, rv b301, iv 2, .unset] [(.ref (rs xk))]))
            refine Go.st (fun _ => XS.astore X404.here C.hx rfl (hb C.hby d3_106) rfl rfl (l' := #[rv ad, iv xk.toInt32, iv 4, rv fr, rv tv, rv b301, iv 2, rv (rs xk)]) rfl) ?_
            show Go p e below s n0 _ _ _ (T404.setTop (mkF m 108 #[rv ad, iv xk.toInt32, iv 4, rv fr, rv tv, rv b301, iv 2, rv (rs xk)] []))
            refine Go.st (fun _ => XS.aload X404.here C.hx rfl (hb C.hby d3_108) rfl rfl) ?_
            show Go p e below s n0 _ _ _ (T404.setTop (mkF m 110 #[rv ad, iv xk.toInt32, iv 4, rv fr, rv tv, rv b301, iv 2, rv (rs xk)] [(.ref (rs xk))]))
            refine Go.st (fun _ => XS.ifnullNo X404.here C.hx rfl (hb C.hby d3_110) rfl) ?_
            show Go p e below s n0 _ _ _ (T404.setTop (mkF m 113 #[rv ad, iv xk.toInt32, iv 4, rv fr, rv tv, rv b301, iv 2, rv (rs xk)] []))
            refine Go.st (fun _ => XS.aload X404.here C.hx rfl (hb C.hby d3_113) rfl rfl) ?_
            show Go p e below s n0 _ _ _ (T404.setTop (mkF m 115 #[rv ad, iv xk.toInt32, iv 4, rv fr, rv tv, rv b301, iv 2, rv (rs xk)] [(.ref (rs xk))]))
            refine Go.alen C X404 AXX (z := (2 : Int32)) rfl d3_115 ?_
            show Go p e below s n0 _ _ _ (T404.setTop (mkF m 116 #[rv ad, iv xk.toInt32, iv 4, rv fr, rv tv, rv b301, iv 2, rv (rs xk)] [(.int 2)]))
            refine Go.st (fun _ => XS.iload X404.here C.hx rfl (hb C.hby d3_116) rfl) ?_
            show Go p e below s n0 _ _ _ (T404.setTop (mkF m 118 #[rv ad, iv xk.toInt32, iv 4, rv fr, rv tv, rv b301, iv 2, rv (rs xk)] [(.int 2), (.int 2)]))
            refine Go.icmp_eq C X404 (pc' := 123) d3_118 (by decide) (by decide) (fun _ => ?_) (fun hc => absurd hc (by decide))
            show Go p e below s n0 _ _ _ (T404.setTop (mkF m 123 #[rv ad, iv xk.toInt32, iv 4, rv fr, rv tv, rv b301, iv 2, rv (rs xk)] []))
            refine Go.st (fun _ => XS.iload X404.here C.hx rfl (hb C.hby d3_123) rfl) ?_
            show Go p e below s n0 _ _ _ (T404.setTop (mkF m 125 #[rv ad, iv xk.toInt32, iv 4, rv fr, rv tv, rv b301, iv 2, rv (rs xk)] [(.int 2)]))
            refine Go.st (fun _ => XS.iconst X404.here C.hx rfl (hb C.hby d3_125)) ?_
            show Go p e below s n0 _ _ _ (T404.setTop (mkF m 126 #[rv ad, iv xk.toInt32, iv 4, rv fr, rv tv, rv b301, iv 2, rv (rs xk)] [(.int 1), (.int 2)]))
            refine Go.icmp_lt C X404 (pc' := 140) d3_126 (by decide) (by decide) (fun hc => absurd hc (by decide)) (fun _ => ?_)
            show Go p e below s n0 _ _ _ (T404.setTop (mkF m 129 #[rv ad, iv xk.toInt32, iv 4, rv fr, rv tv, rv b301, iv 2, rv (rs xk)] []))
            refine Go.st (fun _ => XS.aload X404.here C.hx rfl (hb C.hby d3_129) rfl rfl) ?_
            show Go p e below s n0 _ _ _ (T404.setTop (mkF m 131 #[rv ad, iv xk.toInt32, iv 4, rv fr, rv tv, rv b301, iv 2, rv (rs xk)] [(.ref (rs xk))]))
            refine Go.st (fun _ => XS.iconst X404.here C.hx rfl (hb C.hby d3_131)) ?_
            show Go p e below s n0 _ _ _ (T404.setTop (mkF m 132 #[rv ad, iv xk.toInt32, iv 4, rv fr, rv tv, rv b301, iv 2, rv (rs xk)] [(.int 0), (.ref (rs xk))]))
            refine Go.iaload C X404 AXX (by decide) rfl d3_132 ?_
            show Go p e below s n0 _ _ _ (T404.setTop (mkF m 133 #[rv ad, iv xk.toInt32, iv 4, rv fr, rv tv, rv b301, iv 2, rv (rs xk)] [(.int t0)]))
            refine Go.st (fun _ => XS.aload X404.here C.hx rfl (hb C.hby d3_133) rfl rfl) ?_
            show Go p e below s n0 _ _ _ (T404.setTop (mkF m 135 #[rv ad, iv xk.toInt32, iv 4, rv fr, rv tv, rv b301, iv 2, rv (rs xk)] [(.ref b301), (.int t0)]))
            refine Go.st (fun _ => XS.iconst X404.here C.hx rfl (hb C.hby d3_135)) ?_
            show Go p e below s n0 _ _ _ (T404.setTop (mkF m 136 #[rv ad, iv xk.toInt32, iv 4, rv fr, rv tv, rv b301, iv 2, rv (rs xk)] [(.int 0), (.ref b301), (.int t0)]))
            refine Go.iaload C X404 A_404 (by decide) rfl d3_136 ?_
            show Go p e below s n0 _ _ _ (T404.setTop (mkF m 137 #[rv ad, iv xk.toInt32, iv 4, rv fr, rv tv, rv b301, iv 2, rv (rs xk)] [(.int t0), (.int t0)]))
            refine Go.icmp_ne C X404 (pc' := 195) d3_137 (by decide) (by decide) (fun hc => by first | exact absurd hc rfl | exact absurd rfl hc) (fun _ => ?_)
            show Go p e below s n0 _ _ _ (T404.setTop (mkF m 140 #[rv ad, iv xk.toInt32, iv 4, rv fr, rv tv, rv b301, iv 2, rv (rs xk)] []))
            refine Go.st (fun _ => XS.iload X404.here C.hx rfl (hb C.hby d3_140) rfl) ?_
            show Go p e below s n0 _ _ _ (T404.setTop (mkF m 142 #[rv ad, iv xk.toInt32, iv 4, rv fr, rv tv, rv b301, iv 2, rv (rs xk)] [(.int 2)]))
            refine Go.st (fun _ => XS.iconst X404.here C.hx rfl (hb C.hby d3_142)) ?_
            show Go p e below s n0 _ _ _ (T404.setTop (mkF m 143 #[rv ad, iv xk.toInt32, iv 4, rv fr, rv tv, rv b301, iv 2, rv (rs xk)] [(.int 2), (.int 2)]))
            refine Go.icmp_lt C X404 (pc' := 157) d3_143 (by decide) (by decide) (fun hc => absurd hc (by decide)) (fun _ => ?_)
            show Go p e below s n0 _ _ _ (T404.setTop (mkF m 146 #[rv ad, iv xk.toInt32, iv 4, rv fr, rv tv, rv b301, iv 2, rv (rs xk)] []))
            refine Go.st (fun _ => XS.aload X404.here C.hx rfl (hb C.hby d3_146) rfl rfl) ?_
            show Go p e below s n0 _ _ _ (T404.setTop (mkF m 148 #[rv ad, iv xk.toInt32, iv 4, rv fr, rv tv, rv b301, iv 2, rv (rs xk)] [(.ref (rs xk))]))
            refine Go.st (fun _ => XS.iconst X404.here C.hx rfl (hb C.hby d3_148)) ?_
            show Go p e below s n0 _ _ _ (T404.setTop (mkF m 149 #[rv ad, iv xk.toInt32, iv 4, rv fr, rv tv, rv b301, iv 2, rv (rs xk)] [(.int 1), (.ref (rs xk))]))
            refine Go.iaload C X404 AXX (by decide) rfl d3_149 ?_
            show Go p e below s n0 _ _ _ (T404.setTop (mkF m 150 #[rv ad, iv xk.toInt32, iv 4, rv fr, rv tv, rv b301, iv 2, rv (rs xk)] [(.int t3)]))
            refine Go.st (fun _ => XS.aload X404.here C.hx rfl (hb C.hby d3_150) rfl rfl) ?_
            show Go p e below s n0 _ _ _ (T404.setTop (mkF m 152 #[rv ad, iv xk.toInt32, iv 4, rv fr, rv tv, rv b301, iv 2, rv (rs xk)] [(.ref b301), (.int t3)]))
            refine Go.st (fun _ => XS.iconst X404.here C.hx rfl (hb C.hby d3_152)) ?_
            show Go p e below s n0 _ _ _ (T404.setTop (mkF m 153 #[rv ad, iv xk.toInt32, iv 4, rv fr, rv tv, rv b301, iv 2, rv (rs xk)] [(.int 1), (.ref b301), (.int t3)]))
            refine Go.iaload C X404 A_404 (by decide) rfl d3_153 ?_
            show Go p e below s n0 _ _ _ (T404.setTop (mkF m 154 #[rv ad, iv xk.toInt32, iv 4, rv fr, rv tv, rv b301, iv 2, rv (rs xk)] [(.int t3), (.int t3)]))
            refine Go.icmp_ne C X404 (pc' := 195) d3_154 (by decide) (by decide) (fun hc => by first | exact absurd hc rfl | exact absurd rfl hc) (fun _ => ?_)
            show Go p e below s n0 _ _ _ (T404.setTop (mkF m 157 #[rv ad, iv xk.toInt32, iv 4, rv fr, rv tv, rv b301, iv 2, rv (rs xk)] []))
            refine Go.st (fun _ => XS.iload X404.here C.hx rfl (hb C.hby d3_157) rfl) ?_
            show Go p e below s n0 _ _ _ (T404.setTop (mkF m 159 #[rv ad, iv xk.toInt32, iv 4, rv fr, rv tv, rv b301, iv 2, rv (rs xk)] [(.int 2)]))
            refine Go.st (fun _ => XS.iconst X404.here C.hx rfl (hb C.hby d3_159)) ?_
            show Go p e below s n0 _ _ _ (T404.setTop (mkF m 160 #[rv ad, iv xk.toInt32, iv 4, rv fr, rv tv, rv b301, iv 2, rv (rs xk)] [(.int 3), (.int 2)]))
            refine Go.icmp_lt C X404 (pc' := 174) d3_160 (by decide) (by decide) (fun _ => ?_) (fun hc => absurd hc (by decide))
            show Go p e below s n0 _ _ _ (T404.setTop (mkF m 174 #[rv ad, iv xk.toInt32, iv 4, rv fr, rv tv, rv b301, iv 2, rv (rs xk)] []))
            refine Go.st (fun _ => XS.iload X404.here C.hx rfl (hb C.hby d3_174) rfl) ?_
            show Go p e below s n0 _ _ _ (T404.setTop (mkF m 176 #[rv ad, iv xk.toInt32, iv 4, rv fr, rv tv, rv b301, iv 2, rv (rs xk)] [(.int 2)]))
            refine Go.st (fun _ => XS.iconst X404.here C.hx rfl (hb C.hby d3_176)) ?_
            show Go p e below s n0 _ _ _ (T404.setTop (mkF m 177 #[rv ad, iv xk.toInt32, iv 4, rv fr, rv tv, rv b301, iv 2, rv (rs xk)] [(.int 4), (.int 2)]))
            refine Go.icmp_lt C X404 (pc' := 191) d3_177 (by decide) (by decide) (fun _ => ?_) (fun hc => absurd hc (by decide))
            show Go p e below s n0 _ _ _ (T404.setTop (mkF m 191 #[rv ad, iv xk.toInt32, iv 4, rv fr, rv tv, rv b301, iv 2, rv (rs xk)] []))
            refine Go.st (fun _ => XS.iconst X404.here C.hx rfl (hb C.hby d3_191)) ?_
            show Go p e below s n0 _ _ _ (T404.setTop (mkF m 192 #[rv ad, iv xk.toInt32, iv 4, rv fr, rv tv, rv b301, iv 2, rv (rs xk)] [(.int 1)]))
            refine Go.st (fun _ => XS.goto X404.here C.hx rfl (pc0 := 192) (pc' := 196) rfl (hb C.hby d3_192) (by decide) (by decide)) ?_
            show Go p e below s n0 _ _ _ (T404.setTop (mkF m 196 #[rv ad, iv xk.toInt32, iv 4, rv fr, rv tv, rv b301, iv 2, rv (rs xk)] [(.int 1)]))
            exact Go.retZ C X404 (by decide) d3_196 ⟨rfl, K404⟩ (by decide) (by decide)
        · show Go p e below s n0 _ _ _ (T390.setTop (mkF m 67 #[rv ad, iv xk.toInt32, iv 4, rv fr, rv tv, rv b301, iv 1, .unset] []))
          refine Go.st (fun _ => XS.aload X390.here C.hx rfl (hb C.hby d3_67) rfl rfl) ?_
          show Go p e below s n0 _ _ _ (T390.setTop (mkF m 69 #[rv ad, iv xk.toInt32, iv 4, rv fr, rv tv, rv b301, iv 1, .unset] [(.ref b301)]))
          refine Go.st (fun _ => XS.iload X390.here C.hx rfl (hb C.hby d3_69) rfl) ?_
          show Go p e below s n0 _ _ _ (T390.setTop (mkF m 71 #[rv ad, iv xk.toInt32, iv 4, rv fr, rv tv, rv b301, iv 1, .unset] [(.int 1), (.ref b301)]))
          refine Go.st (fun _ => XS.aload X390.here C.hx rfl (hb C.hby d3_71) rfl rfl) ?_
          show Go p e below s n0 _ _ _ (T390.setTop (mkF m 73 #[rv ad, iv xk.toInt32, iv 4, rv fr, rv tv, rv b301, iv 1, .unset] [(.ref tv), (.int 1), (.ref b301)]))
          refine Go.st (fun _ => XS.iconst X390.here C.hx rfl (hb C.hby d3_73)) ?_
          show Go p e below s n0 _ _ _ (T390.setTop (mkF m 74 #[rv ad, iv xk.toInt32, iv 4, rv fr, rv tv, rv b301, iv 1, .unset] [(.int 2), (.ref tv), (.int 1), (.ref b301)]))
          refine Go.iaload C X390 ((AT_.ext E301).other W390 ne_tv_b301) (by decide) rfl d3_74 ?_
          show Go p e below s n0 _ _ _ (T390.setTop (mkF m 75 #[rv ad, iv xk.toInt32, iv 4, rv fr, rv tv, rv b301, iv 1, .unset] [(.int t2), (.int 1), (.ref b301)]))
          refine Go.iastore C X390 A_390 (by decide) (Nat.le_of_ble_eq_true rfl) ge301 d3_75 (fun T415 h415 X415 W415 A415 => ?_)
          have A_415 : AR Z h415 b301 .int [(.int t0), (.int t2), (.int 0), (.int 0)] := A415
          have O_416 : AO Z h415 ad (ouV cc cc rs) := (((O.ext E301).other W390 ne_ad_b301).other W415 ne_ad_b301)
          have AF__417 : AR Z h415 fr .int [(.int g0.toInt32), (.int g1.toInt32), (.int g2.toInt32), (.int g3.toInt32)] := (((AF_.ext E301).other W390 ne_fr_b301).other W415 ne_fr_b301)
          have AT__418 : AR Z h415 tv .int [(.int t0), (.int t1), (.int t2), (.int t3)] := (((AT_.ext E301).other W390 ne_tv_b301).other W415 ne_tv_b301)
          have K415 : Keep h0 h415 [] := K390.wr W415 (Or.inr old_b301)
          show Go p e below s n0 _ _ _ (T415.setTop (mkF m 76 #[rv ad, iv xk.toInt32, iv 4, rv fr, rv tv, rv b301, iv 1, .unset] []))
          refine Go.st (fun _ => XS.iinc X415.here C.hx rfl (hb C.hby d3_76) rfl (l' := #[rv ad, iv xk.toInt32, iv 4, rv fr, rv tv, rv b301, iv 2, .unset]) rfl) ?_
          show Go p e below s n0 _ _ _ (T415.setTop (mkF m 79 #[rv ad, iv xk.toInt32, iv 4, rv fr, rv tv, rv b301, iv 2, .unset] []))
          refine Go.st (fun _ => XS.iloadN X415.here C.hx rfl (hb C.hby d3_79) rfl) ?_
          show Go p e below s n0 _ _ _ (T415.setTop (mkF m 80 #[rv ad, iv xk.toInt32, iv 4, rv fr, rv tv, rv b301, iv 2, .unset] [(.int 4)]))
          refine Go.st (fun _ => XS.iconst X415.here C.hx rfl (hb C.hby d3_80)) ?_
          show Go p e below s n0 _ _ _ (T415.setTop (mkF m 81 #[rv ad, iv xk.toInt32, iv 4, rv fr, rv tv, rv b301, iv 2, .unset] [(.int 3), (.int 4)]))
          refine Go.icmp_le C X415 (pc' := 103) d3_81 (by decide) (by decide) (fun hc => absurd hc (by decide)) (fun _ => ?_)
          show Go p e below s n0 _ _ _ (T415.setTop (mkF m 84 #[rv ad, iv xk.toInt32, iv 4, rv fr, rv tv, rv b301, iv 2, .unset] []))
          refine Go.st (fun _ => XS.aloadN X415.here C.hx rfl (hb C.hby d3_84) rfl rfl) ?_
          show Go p e below s n0 _ _ _ (T415.setTop (mkF m 85 #[rv ad, iv xk.toInt32, iv 4, rv fr, rv tv, rv b301, iv 2, .unset] [(.ref fr)]))
          refine Go.st (fun _ => XS.iconst X415.here C.hx rfl (hb C.hby d3_85)) ?_
          show Go p e below s n0 _ _ _ (T415.setTop (mkF m 86 #[rv ad, iv xk.toInt32, iv 4, rv fr, rv tv, rv b301, iv 2, .unset] [(.int 3), (.ref fr)]))
          refine Go.iaload C X415 AF__417 (by decide) rfl d3_86 ?_
          show Go p e below s n0 _ _ _ (T415.setTop (mkF m 87 #[rv ad, iv xk.toInt32, iv 4, rv fr, rv tv, rv b301, iv 2, .unset] [(.int g3.toInt32)]))
          refine Go.st (fun _ => XS.iloadN X415.here C.hx rfl (hb C.hby d3_87) rfl) ?_
          show Go p e below s n0 _ _ _ (T415.setTop (mkF m 88 #[rv ad, iv xk.toInt32, iv 4, rv fr, rv tv, rv b301, iv 2, .unset] [(.int xk.toInt32), (.int g3.toInt32)]))
          refine Go.icmp_ne C X415 (pc' := 103) d3_88 (by decide) (by decide) (fun hc88_420 => ?_) (fun hc88_420 => ?_)
          · have p0 := eq_true ((eqI (by omega) (by omega)).mp hc16_303).symm
            have p1 := eq_false (fun u : xk = g1 => hc40_393 ((eqI (by omega) (by omega)).mpr u.symm))
            have p2 := eq_true ((eqI (by omega) (by omega)).mp hc64_395).symm
            have p3 := eq_false (fun u : xk = g3 => hc88_420 ((eqI (by omega) (by omega)).mpr u.symm))
            have RL : rowP (fsF g0 g1 g2 g3) (tsF t0 t1 t2 t3) 4 4 xk = [t0, t2] := by
              simp only [rowP, cnt, fsF0, tsF0, fsF1, tsF1, fsF2, tsF2, fsF3, tsF3, p0, p1, p2, p3, if_true, if_false]
              try rfl
            have AXX : AR Z h415 (rs xk) .int [(.int t0), (.int t2)] := by have u := (AX_391.other W415 ne__rs_xk__b301); rw [RL] at u; exact u
            show Go p e below s n0 _ _ _ (T415.setTop (mkF m 103 #[rv ad, iv xk.toInt32, iv 4, rv fr, rv tv, rv b301, iv 2, .unset] []))
            refine Go.st (fun _ => XS.aloadN X415.here C.hx rfl (hb C.hby d3_103) rfl rfl) ?_
            show Go p e below s n0 _ _ _ (T415.setTop (mkF m 104 #[rv ad, iv xk.toInt32, iv 4, rv fr, rv tv, rv b301, iv 2, .unset] [(.ref ad)]))
            refine Go.st (fun _ => XS.iloadN X415.here C.hx rfl (hb C.hby d3_104) rfl) ?_
            show Go p e below s n0 _ _ _ (T415.setTop (mkF m 105 #[rv ad, iv xk.toInt32, iv 4, rv fr, rv tv, rv b301, iv 2, .unset] [(.int xk.toInt32), (.ref ad)]))
            refine Go.aaload C X415 (O_416).ar rfl (nn32 (by omega)) (ou_get hc hx) d3_105 ?_
            show Go p e below s n0 _ _ _ (T415.setTop (mkF m 106 #[rv ad, iv xk.toInt32, iv 4, rv fr, rv tv, rv b301, iv 2, .unset] [(.ref (rs xk))]))
            refine Go.st (fun _ => XS.astore X415.here C.hx rfl (hb C.hby d3_106) rfl rfl (l' := #[rv ad, iv xk.toInt32, iv 4, rv fr, rv tv, rv b301, iv 2, rv (rs xk)]) rfl) ?_
            show Go p e below s n0 _ _ _ (T415.setTop (mkF m 108 #[rv ad, iv xk.toInt32, iv 4, rv fr, rv tv, rv b301, iv 2, rv (rs xk)] []))
            refine Go.st (fun _ => XS.aload X415.here C.hx rfl (hb C.hby d3_108) rfl rfl) ?_
            show Go p e below s n0 _ _ _ (T415.setTop (mkF m 110 #[rv ad, iv xk.toInt32, iv 4, rv fr, rv tv, rv b301, iv 2, rv (rs xk)] [(.ref (rs xk))]))
            refine Go.st (fun _ => XS.ifnullNo X415.here C.hx rfl (hb C.hby d3_110) rfl) ?_
            show Go p e below s n0 _ _ _ (T415.setTop (mkF m 113 #[rv ad, iv xk.toInt32, iv 4, rv fr, rv tv, rv b301, iv 2, rv (rs xk)] []))
            refine Go.st (fun _ => XS.aload X415.here C.hx rfl (hb C.hby d3_113) rfl rfl) ?_
            show Go p e below s n0 _ _ _ (T415.setTop (mkF m 115 #[rv ad, iv xk.toInt32, iv 4, rv fr, rv tv, rv b301, iv 2, rv (rs xk)] [(.ref (rs xk))]))
            refine Go.alen C X415 AXX (z := (2 : Int32)) rfl d3_115 ?_
            show Go p e below s n0 _ _ _ (T415.setTop (mkF m 116 #[rv ad, iv xk.toInt32, iv 4, rv fr, rv tv, rv b301, iv 2, rv (rs xk)] [(.int 2)]))
            refine Go.st (fun _ => XS.iload X415.here C.hx rfl (hb C.hby d3_116) rfl) ?_
            show Go p e below s n0 _ _ _ (T415.setTop (mkF m 118 #[rv ad, iv xk.toInt32, iv 4, rv fr, rv tv, rv b301, iv 2, rv (rs xk)] [(.int 2), (.int 2)]))
            refine Go.icmp_eq C X415 (pc' := 123) d3_118 (by decide) (by decide) (fun _ => ?_) (fun hc => absurd hc (by decide))
            show Go p e below s n0 _ _ _ (T415.setTop (mkF m 123 #[rv ad, iv xk.toInt32, iv 4, rv fr, rv tv, rv b301, iv 2, rv (rs xk)] []))
            refine Go.st (fun _ => XS.iload X415.here C.hx rfl (hb C.hby d3_123) rfl) ?_
            show Go p e below s n0 _ _ _ (T415.setTop (mkF m 125 #[rv ad, iv xk.toInt32, iv 4, rv fr, rv tv, rv b301, iv 2, rv (rs xk)] [(.int 2)]))
            refine Go.st (fun _ => XS.iconst X415.here C.hx rfl (hb C.hby d3_125)) ?_
            show Go p e below s n0 _ _ _ (T415.setTop (mkF m 126 #[rv ad, iv xk.toInt32, iv 4, rv fr, rv tv, rv b301, iv 2, rv (rs xk)] [(.int 1), (.int 2)]))
            refine Go.icmp_lt C X415 (pc' := 140) d3_126 (by decide) (by decide) (fun hc => absurd hc (by decide)) (fun _ => ?_)
            show Go p e below s n0 _ _ _ (T415.setTop (mkF m 129 #[rv ad, iv xk.toInt32, iv 4, rv fr, rv tv, rv b301, iv 2, rv (rs xk)] []))
            refine Go.st (fun _ => XS.aload X415.here C.hx rfl (hb C.hby d3_129) rfl rfl) ?_
            show Go p e below s n0 _ _ _ (T415.setTop (mkF m 131 #[rv ad, iv xk.toInt32, iv 4, rv fr, rv tv, rv b301, iv 2, rv (rs xk)] [(.ref (rs xk))]))
            refine Go.st (fun _ => XS.iconst X415.here C.hx rfl (hb C.hby d3_131)) ?_
            show Go p e below s n0 _ _ _ (T415.setTop (mkF m 132 #[rv ad, iv xk.toInt32, iv 4, rv fr, rv tv, rv b301, iv 2, rv (rs xk)] [(.int 0), (.ref (rs xk))]))
            refine Go.iaload C X415 AXX (by decide) rfl d3_132 ?_
            show Go p e below s n0 _ _ _ (T415.setTop (mkF m 133 #[rv ad, iv xk.toInt32, iv 4, rv fr, rv tv, rv b301, iv 2, rv (rs xk)] [(.int t0)]))
            refine Go.st (fun _ => XS.aload X415.here C.hx rfl (hb C.hby d3_133) rfl rfl) ?_
            show Go p e below s n0 _ _ _ (T415.setTop (mkF m 135 #[rv ad, iv xk.toInt32, iv 4, rv fr, rv tv, rv b301, iv 2, rv (rs xk)] [(.ref b301), (.int t0)]))
            refine Go.st (fun _ => XS.iconst X415.here C.hx rfl (hb C.hby d3_135)) ?_
            show Go p e below s n0 _ _ _ (T415.setTop (mkF m 136 #[rv ad, iv xk.toInt32, iv 4, rv fr, rv tv, rv b301, iv 2, rv (rs xk)] [(.int 0), (.ref b301), (.int t0)]))
            refine Go.iaload C X415 A_415 (by decide) rfl d3_136 ?_
            show Go p e below s n0 _ _ _ (T415.setTop (mkF m 137 #[rv ad, iv xk.toInt32, iv 4, rv fr, rv tv, rv b301, iv 2, rv (rs xk)] [(.int t0), (.int t0)]))
            refine Go.icmp_ne C X415 (pc' := 195) d3_137 (by decide) (by decide) (fun hc => by first | exact absurd hc rfl | exact absurd rfl hc) (fun _ => ?_)
            show Go p e below s n0 _ _ _ (T415.setTop (mkF m 140 #[rv ad, iv xk.toInt32, iv 4, rv fr, rv tv, rv b301, iv 2, rv (rs xk)] []))
            refine Go.st (fun _ => XS.iload X415.here C.hx rfl (hb C.hby d3_140) rfl) ?_
            show Go p e below s n0 _ _ _ (T415.setTop (mkF m 142 #[rv ad, iv xk.toInt32, iv 4, rv fr, rv tv, rv b301, iv 2, rv (rs xk)] [(.int 2)]))
            refine Go.st (fun _ => XS.iconst X415.here C.hx rfl (hb C.hby d3_142)) ?_
            show Go p e below s n0 _ _ _ (T415.setTop (mkF m 143 #[rv ad, iv xk.toInt32, iv 4, rv fr, rv tv, rv b301, iv 2, rv (rs xk)] [(.int 2), (.int 2)]))
            refine Go.icmp_lt C X415 (pc' := 157) d3_143 (by decide) (by decide) (fun hc => absurd hc (by decide)) (fun _ => ?_)
            show Go p e below s n0 _ _ _ (T415.setTop (mkF m 146 #[rv ad, iv xk.toInt32, iv 4, rv fr, rv tv, rv b301, iv 2, rv (rs xk)] []))
            refine Go.st (fun _ => XS.aload X415.here C.hx rfl (hb C.hby d3_146) rfl rfl) ?_
            show Go p e below s n0 _ _ _ (T415.setTop (mkF m 148 #[rv ad, iv xk.toInt32, iv 4, rv fr, rv tv, rv b301, iv 2, rv (rs xk)] [(.ref (rs xk))]))
            refine Go.st (fun _ => XS.iconst X415.here C.hx rfl (hb C.hby d3_148)) ?_
            show Go p e below s n0 _ _ _ (T415.setTop (mkF m 149 #[rv ad, iv xk.toInt32, iv 4, rv fr, rv tv, rv b301, iv 2, rv (rs xk)] [(.int 1), (.ref (rs xk))]))
            refine Go.iaload C X415 AXX (by decide) rfl d3_149 ?_
            show Go p e below s n0 _ _ _ (T415.setTop (mkF m 150 #[rv ad, iv xk.toInt32, iv 4, rv fr, rv tv, rv b301, iv 2, rv (rs xk)] [(.int t2)]))
            refine Go.st (fun _ => XS.aload X415.here C.hx rfl (hb C.hby d3_150) rfl rfl) ?_
            show Go p e below s n0 _ _ _ (T415.setTop (mkF m 152 #[rv ad, iv xk.toInt32, iv 4, rv fr, rv tv, rv b301, iv 2, rv (rs xk)] [(.ref b301), (.int t2)]))
            refine Go.st (fun _ => XS.iconst X415.here C.hx rfl (hb C.hby d3_152)) ?_
            show Go p e below s n0 _ _ _ (T415.setTop (mkF m 153 #[rv ad, iv xk.toInt32, iv 4, rv fr, rv tv, rv b301, iv 2, rv (rs xk)] [(.int 1), (.ref b301), (.int t2)]))
            refine Go.iaload C X415 A_415 (by decide) rfl d3_153 ?_
            show Go p e below s n0 _ _ _ (T415.setTop (mkF m 154 #[rv ad, iv xk.toInt32, iv 4, rv fr, rv tv, rv b301, iv 2, rv (rs xk)] [(.int t2), (.int t2)]))
            refine Go.icmp_ne C X415 (pc' := 195) d3_154 (by decide) (by decide) (fun hc => by first | exact absurd hc rfl | exact absurd rfl hc) (fun _ => ?_)
            show Go p e below s n0 _ _ _ (T415.setTop (mkF m 157 #[rv ad, iv xk.toInt32, iv 4, rv fr, rv tv, rv b301, iv 2, rv (rs xk)] []))
            refine Go.st (fun _ => XS.iload X415.here C.hx rfl (hb C.hby d3_157) rfl) ?_
            show Go p e below s n0 _ _ _ (T415.setTop (mkF m 159 #[rv ad, iv xk.toInt32, iv 4, rv fr, rv tv, rv b301, iv 2, rv (rs xk)] [(.int 2)]))
            refine Go.st (fun _ => XS.iconst X415.here C.hx rfl (hb C.hby d3_159)) ?_
            show Go p e below s n0 _ _ _ (T415.setTop (mkF m 160 #[rv ad, iv xk.toInt32, iv 4, rv fr, rv tv, rv b301, iv 2, rv (rs xk)] [(.int 3), (.int 2)]))
            refine Go.icmp_lt C X415 (pc' := 174) d3_160 (by decide) (by decide) (fun _ => ?_) (fun hc => absurd hc (by decide))
            show Go p e below s n0 _ _ _ (T415.setTop (mkF m 174 #[rv ad, iv xk.toInt32, iv 4, rv fr, rv tv, rv b301, iv 2, rv (rs xk)] []))
            refine Go.st (fun _ => XS.iload X415.here C.hx rfl (hb C.hby d3_174) rfl) ?_
            show Go p e below s n0 _ _ _ (T415.setTop (mkF m 176 #[rv ad, iv xk.toInt32, iv 4, rv fr, rv tv, rv b301, iv 2, rv (rs xk)] [(.int 2)]))
            refine Go.st (fun _ => XS.iconst X415.here C.hx rfl (hb C.hby d3_176)) ?_
            show Go p e below s n0 _ _ _ (T415.setTop (mkF m 177 #[rv ad, iv xk.toInt32, iv 4, rv fr, rv tv, rv b301, iv 2, rv (rs xk)] [(.int 4), (.int 2)]))
            refine Go.icmp_lt C X415 (pc' := 191) d3_177 (by decide) (by decide) (fun _ => ?_) (fun hc => absurd hc (by decide))
            show Go p e below s n0 _ _ _ (T415.setTop (mkF m 191 #[rv ad, iv xk.toInt32, iv 4, rv fr, rv tv, rv b301, iv 2, rv (rs xk)] []))
            refine Go.st (fun _ => XS.iconst X415.here C.hx rfl (hb C.hby d3_191)) ?_
            show Go p e below s n0 _ _ _ (T415.setTop (mkF m 192 #[rv ad, iv xk.toInt32, iv 4, rv fr, rv tv, rv b301, iv 2, rv (rs xk)] [(.int 1)]))
            refine Go.st (fun _ => XS.goto X415.here C.hx rfl (pc0 := 192) (pc' := 196) rfl (hb C.hby d3_192) (by decide) (by decide)) ?_
            show Go p e below s n0 _ _ _ (T415.setTop (mkF m 196 #[rv ad, iv xk.toInt32, iv 4, rv fr, rv tv, rv b301, iv 2, rv (rs xk)] [(.int 1)]))
            exact Go.retZ C X415 (by decide) d3_196 ⟨rfl, K415⟩ (by decide) (by decide)
          · show Go p e below s n0 _ _ _ (T415.setTop (mkF m 91 #[rv ad, iv xk.toInt32, iv 4, rv fr, rv tv, rv b301, iv 2, .unset] []))
            refine Go.st (fun _ => XS.aload X415.here C.hx rfl (hb C.hby d3_91) rfl rfl) ?_
            show Go p e below s n0 _ _ _ (T415.setTop (mkF m 93 #[rv ad, iv xk.toInt32, iv 4, rv fr, rv tv, rv b301, iv 2, .unset] [(.ref b301)]))
            refine Go.st (fun _ => XS.iload X415.here C.hx rfl (hb C.hby d3_93) rfl) ?_
            show Go p e below s n0 _ _ _ (T415.setTop (mkF m 95 #[rv ad, iv xk.toInt32, iv 4, rv fr, rv tv, rv b301, iv 2, .unset] [(.int 2), (.ref b301)]))
            refine Go.st (fun _ => XS.aload X415.here C.hx rfl (hb C.hby d3_95) rfl rfl) ?_
            show Go p e below s n0 _ _ _ (T415.setTop (mkF m 97 #[rv ad, iv xk.toInt32, iv 4, rv fr, rv tv, rv b301, iv 2, .unset] [(.ref tv), (.int 2), (.ref b301)]))
            refine Go.st (fun _ => XS.iconst X415.here C.hx rfl (hb C.hby d3_97)) ?_
            show Go p e below s n0 _ _ _ (T415.setTop (mkF m 98 #[rv ad, iv xk.toInt32, iv 4, rv fr, rv tv, rv b301, iv 2, .unset] [(.int 3), (.ref tv), (.int 2), (.ref b301)]))
            refine Go.iaload C X415 AT__418 (by decide) rfl d3_98 ?_
            show Go p e below s n0 _ _ _ (T415.setTop (mkF m 99 #[rv ad, iv xk.toInt32, iv 4, rv fr, rv tv, rv b301, iv 2, .unset] [(.int t3), (.int 2), (.ref b301)]))
            refine Go.iastore C X415 A_415 (by decide) (Nat.le_of_ble_eq_true rfl) ge301 d3_99 (fun T428 h428 X428 W428 A428 => ?_)
            have A_428 : AR Z h428 b301 .int [(.int t0), (.int t2), (.int t3), (.int 0)] := A428
            have AX_429 : AR Z h428 (rs xk) .int ((rowP (fsF g0 g1 g2 g3) (tsF t0 t1 t2 t3) 4 4 xk).map Value.int) := ((AX_391.other W415 ne__rs_xk__b301).other W428 ne__rs_xk__b301)
            have K428 : Keep h0 h428 [] := K415.wr W428 (Or.inr old_b301)
            show Go p e below s n0 _ _ _ (T428.setTop (mkF m 100 #[rv ad, iv xk.toInt32, iv 4, rv fr, rv tv, rv b301, iv 2, .unset] []))
            refine Go.st (fun _ => XS.iinc X428.here C.hx rfl (hb C.hby d3_100) rfl (l' := #[rv ad, iv xk.toInt32, iv 4, rv fr, rv tv, rv b301, iv 3, .unset]) rfl) ?_
            have p0 := eq_true ((eqI (by omega) (by omega)).mp hc16_303).symm
            have p1 := eq_false (fun u : xk = g1 => hc40_393 ((eqI (by omega) (by omega)).mpr u.symm))
            have p2 := eq_true ((eqI (by omega) (by omega)).mp hc64_395).symm
            have p3 := eq_true ((eqI (by omega) (by omega)).mp hc88_420).symm
            have RL : rowP (fsF g0 g1 g2 g3) (tsF t0 t1 t2 t3) 4 4 xk = [t0, t2, t3] := by
              simp only [rowP, cnt, fsF0, tsF0, fsF1, tsF1, fsF2, tsF2, fsF3, tsF3, p0, p1, p2, p3, if_true, if_false]
              try rfl
            have AXX : AR Z h428 (rs xk) .int [(.int t0), (.int t2), (.int t3)] := by have u := AX_429; rw [RL] at u; exact u
            show Go p e below s n0 _ _ _ (T428.setTop (mkF m 103 #[rv ad, iv xk.toInt32, iv 4, rv fr, rv tv, rv b301, iv 3, .unset] []))
            refine Go.st (fun _ => XS.aloadN X428.here C.hx rfl (hb C.hby d3_103) rfl rfl) ?_
            show Go p e below s n0 _ _ _ (T428.setTop (mkF m 104 #[rv ad, iv xk.toInt32, iv 4, rv fr, rv tv, rv b301, iv 3, .unset] [(.ref ad)]))
            refine Go.st (fun _ => XS.iloadN X428.here C.hx rfl (hb C.hby d3_104) rfl) ?_
            show Go p e below s n0 _ _ _ (T428.setTop (mkF m 105 #[rv ad, iv xk.toInt32, iv 4, rv fr, rv tv, rv b301, iv 3, .unset] [(.int xk.toInt32), (.ref ad)]))
            refine Go.aaload C X428 ((O_416.other W428 ne_ad_b301)).ar rfl (nn32 (by omega)) (ou_get hc hx) d3_105 ?_
            show Go p e below s n0 _ _ _ (T428.setTop (mkF m 106 #[rv ad, iv xk.toInt32, iv 4, rv fr, rv tv, rv b301, iv 3, .unset] [(.ref (rs xk))]))
            refine Go.st (fun _ => XS.astore X428.here C.hx rfl (hb C.hby d3_106) rfl rfl (l' := #[rv ad, iv xk.toInt32, iv 4, rv fr, rv tv, rv b301, iv 3, rv (rs xk)]) rfl) ?_
            show Go p e below s n0 _ _ _ (T428.setTop (mkF m 108 #[rv ad, iv xk.toInt32, iv 4, rv fr, rv tv, rv b301, iv 3, rv (rs xk)] []))
            refine Go.st (fun _ => XS.aload X428.here C.hx rfl (hb C.hby d3_108) rfl rfl) ?_
            show Go p e below s n0 _ _ _ (T428.setTop (mkF m 110 #[rv ad, iv xk.toInt32, iv 4, rv fr, rv tv, rv b301, iv 3, rv (rs xk)] [(.ref (rs xk))]))
            refine Go.st (fun _ => XS.ifnullNo X428.here C.hx rfl (hb C.hby d3_110) rfl) ?_
            show Go p e below s n0 _ _ _ (T428.setTop (mkF m 113 #[rv ad, iv xk.toInt32, iv 4, rv fr, rv tv, rv b301, iv 3, rv (rs xk)] []))
            refine Go.st (fun _ => XS.aload X428.here C.hx rfl (hb C.hby d3_113) rfl rfl) ?_
            show Go p e below s n0 _ _ _ (T428.setTop (mkF m 115 #[rv ad, iv xk.toInt32, iv 4, rv fr, rv tv, rv b301, iv 3, rv (rs xk)] [(.ref (rs xk))]))
            refine Go.alen C X428 AXX (z := (3 : Int32)) rfl d3_115 ?_
            show Go p e below s n0 _ _ _ (T428.setTop (mkF m 116 #[rv ad, iv xk.toInt32, iv 4, rv fr, rv tv, rv b301, iv 3, rv (rs xk)] [(.int 3)]))
            refine Go.st (fun _ => XS.iload X428.here C.hx rfl (hb C.hby d3_116) rfl) ?_
            show Go p e below s n0 _ _ _ (T428.setTop (mkF m 118 #[rv ad, iv xk.toInt32, iv 4, rv fr, rv tv, rv b301, iv 3, rv (rs xk)] [(.int 3), (.int 3)]))
            refine Go.icmp_eq C X428 (pc' := 123) d3_118 (by decide) (by decide) (fun _ => ?_) (fun hc => absurd hc (by decide))
            show Go p e below s n0 _ _ _ (T428.setTop (mkF m 123 #[rv ad, iv xk.toInt32, iv 4, rv fr, rv tv, rv b301, iv 3, rv (rs xk)] []))
            refine Go.st (fun _ => XS.iload X428.here C.hx rfl (hb C.hby d3_123) rfl) ?_
            show Go p e below s n0 _ _ _ (T428.setTop (mkF m 125 #[rv ad, iv xk.toInt32, iv 4, rv fr, rv tv, rv b301, iv 3, rv (rs xk)] [(.int 3)]))
            refine Go.st (fun _ => XS.iconst X428.here C.hx rfl (hb C.hby d3_125)) ?_
            show Go p e below s n0 _ _ _ (T428.setTop (mkF m 126 #[rv ad, iv xk.toInt32, iv 4, rv fr, rv tv, rv b301, iv 3, rv (rs xk)] [(.int 1), (.int 3)]))
            refine Go.icmp_lt C X428 (pc' := 140) d3_126 (by decide) (by decide) (fun hc => absurd hc (by decide)) (fun _ => ?_)
            show Go p e below s n0 _ _ _ (T428.setTop (mkF m 129 #[rv ad, iv xk.toInt32, iv 4, rv fr, rv tv, rv b301, iv 3, rv (rs xk)] []))
            refine Go.st (fun _ => XS.aload X428.here C.hx rfl (hb C.hby d3_129) rfl rfl) ?_
            show Go p e below s n0 _ _ _ (T428.setTop (mkF m 131 #[rv ad, iv xk.toInt32, iv 4, rv fr, rv tv, rv b301, iv 3, rv (rs xk)] [(.ref (rs xk))]))
            refine Go.st (fun _ => XS.iconst X428.here C.hx rfl (hb C.hby d3_131)) ?_
            show Go p e below s n0 _ _ _ (T428.setTop (mkF m 132 #[rv ad, iv xk.toInt32, iv 4, rv fr, rv tv, rv b301, iv 3, rv (rs xk)] [(.int 0), (.ref (rs xk))]))
            refine Go.iaload C X428 AXX (by decide) rfl d3_132 ?_
            show Go p e below s n0 _ _ _ (T428.setTop (mkF m 133 #[rv ad, iv xk.toInt32, iv 4, rv fr, rv tv, rv b301, iv 3, rv (rs xk)] [(.int t0)]))
            refine Go.st (fun _ => XS.aload X428.here C.hx rfl (hb C.hby d3_133) rfl rfl) ?_
            show Go p e below s n0 _ _ _ (T428.setTop (mkF m 135 #[rv ad, iv xk.toInt32, iv 4, rv fr, rv tv, rv b301, iv 3, rv (rs xk)] [(.ref b301), (.int t0)]))
            refine Go.st (fun _ => XS.iconst X428.here C.hx rfl (hb C.hby d3_135)) ?_
            show Go p e below s n0 _ _ _ (T428.setTop (mkF m 136 #[rv ad, iv xk.toInt32, iv 4, rv fr, rv tv, rv b301, iv 3, rv (rs xk)] [(.int 0), (.ref b301), (.int t0)]))
            refine Go.iaload C X428 A_428 (by decide) rfl d3_136 ?_
            show Go p e below s n0 _ _ _ (T428.setTop (mkF m 137 #[rv ad, iv xk.toInt32, iv 4, rv fr, rv tv, rv b301, iv 3, rv (rs xk)] [(.int t0), (.int t0)]))
            refine Go.icmp_ne C X428 (pc' := 195) d3_137 (by decide) (by decide) (fun hc => by first | exact absurd hc rfl | exact absurd rfl hc) (fun _ => ?_)
            show Go p e below s n0 _ _ _ (T428.setTop (mkF m 140 #[rv ad, iv xk.toInt32, iv 4, rv fr, rv tv, rv b301, iv 3, rv (rs xk)] []))
            refine Go.st (fun _ => XS.iload X428.here C.hx rfl (hb C.hby d3_140) rfl) ?_
            show Go p e below s n0 _ _ _ (T428.setTop (mkF m 142 #[rv ad, iv xk.toInt32, iv 4, rv fr, rv tv, rv b301, iv 3, rv (rs xk)] [(.int 3)]))
            refine Go.st (fun _ => XS.iconst X428.here C.hx rfl (hb C.hby d3_142)) ?_
            show Go p e below s n0 _ _ _ (T428.setTop (mkF m 143 #[rv ad, iv xk.toInt32, iv 4, rv fr, rv tv, rv b301, iv 3, rv (rs xk)] [(.int 2), (.int 3)]))
            refine Go.icmp_lt C X428 (pc' := 157) d3_143 (by decide) (by decide) (fun hc => absurd hc (by decide)) (fun _ => ?_)
            show Go p e below s n0 _ _ _ (T428.setTop (mkF m 146 #[rv ad, iv xk.toInt32, iv 4, rv fr, rv tv, rv b301, iv 3, rv (rs xk)] []))
            refine Go.st (fun _ => XS.aload X428.here C.hx rfl (hb C.hby d3_146) rfl rfl) ?_
            show Go p e below s n0 _ _ _ (T428.setTop (mkF m 148 #[rv ad, iv xk.toInt32, iv 4, rv fr, rv tv, rv b301, iv 3, rv (rs xk)] [(.ref (rs xk))]))
            refine Go.st (fun _ => XS.iconst X428.here C.hx rfl (hb C.hby d3_148)) ?_
            show Go p e below s n0 _ _ _ (T428.setTop (mkF m 149 #[rv ad, iv xk.toInt32, iv 4, rv fr, rv tv, rv b301, iv 3, rv (rs xk)] [(.int 1), (.ref (rs xk))]))
            refine Go.iaload C X428 AXX (by decide) rfl d3_149 ?_
            show Go p e below s n0 _ _ _ (T428.setTop (mkF m 150 #[rv ad, iv xk.toInt32, iv 4, rv fr, rv tv, rv b301, iv 3, rv (rs xk)] [(.int t2)]))
            refine Go.st (fun _ => XS.aload X428.here C.hx rfl (hb C.hby d3_150) rfl rfl) ?_
            show Go p e below s n0 _ _ _ (T428.setTop (mkF m 152 #[rv ad, iv xk.toInt32, iv 4, rv fr, rv tv, rv b301, iv 3, rv (rs xk)] [(.ref b301), (.int t2)]))
            refine Go.st (fun _ => XS.iconst X428.here C.hx rfl (hb C.hby d3_152)) ?_
            show Go p e below s n0 _ _ _ (T428.setTop (mkF m 153 #[rv ad, iv xk.toInt32, iv 4, rv fr, rv tv, rv b301, iv 3, rv (rs xk)] [(.int 1), (.ref b301), (.int t2)]))
            refine Go.iaload C X428 A_428 (by decide) rfl d3_153 ?_
            show Go p e below s n0 _ _ _ (T428.setTop (mkF m 154 #[rv ad, iv xk.toInt32, iv 4, rv fr, rv tv, rv b301, iv 3, rv (rs xk)] [(.int t2), (.int t2)]))
            refine Go.icmp_ne C X428 (pc' := 195) d3_154 (by decide) (by decide) (fun hc => by first | exact absurd hc rfl | exact absurd rfl hc) (fun _ => ?_)
            show Go p e below s n0 _ _ _ (T428.setTop (mkF m 157 #[rv ad, iv xk.toInt32, iv 4, rv fr, rv tv, rv b301, iv 3, rv (rs xk)] []))
            refine Go.st (fun _ => XS.iload X428.here C.hx rfl (hb C.hby d3_157) rfl) ?_
            show Go p e below s n0 _ _ _ (T428.setTop (mkF m 159 #[rv ad, iv xk.toInt32, iv 4, rv fr, rv tv, rv b301, iv 3, rv (rs xk)] [(.int 3)]))
            refine Go.st (fun _ => XS.iconst X428.here C.hx rfl (hb C.hby d3_159)) ?_
            show Go p e below s n0 _ _ _ (T428.setTop (mkF m 160 #[rv ad, iv xk.toInt32, iv 4, rv fr, rv tv, rv b301, iv 3, rv (rs xk)] [(.int 3), (.int 3)]))
            refine Go.icmp_lt C X428 (pc' := 174) d3_160 (by decide) (by decide) (fun hc => absurd hc (by decide)) (fun _ => ?_)
            show Go p e below s n0 _ _ _ (T428.setTop (mkF m 163 #[rv ad, iv xk.toInt32, iv 4, rv fr, rv tv, rv b301, iv 3, rv (rs xk)] []))
            refine Go.st (fun _ => XS.aload X428.here C.hx rfl (hb C.hby d3_163) rfl rfl) ?_
            show Go p e below s n0 _ _ _ (T428.setTop (mkF m 165 #[rv ad, iv xk.toInt32, iv 4, rv fr, rv tv, rv b301, iv 3, rv (rs xk)] [(.ref (rs xk))]))
            refine Go.st (fun _ => XS.iconst X428.here C.hx rfl (hb C.hby d3_165)) ?_
            show Go p e below s n0 _ _ _ (T428.setTop (mkF m 166 #[rv ad, iv xk.toInt32, iv 4, rv fr, rv tv, rv b301, iv 3, rv (rs xk)] [(.int 2), (.ref (rs xk))]))
            refine Go.iaload C X428 AXX (by decide) rfl d3_166 ?_
            show Go p e below s n0 _ _ _ (T428.setTop (mkF m 167 #[rv ad, iv xk.toInt32, iv 4, rv fr, rv tv, rv b301, iv 3, rv (rs xk)] [(.int t3)]))
            refine Go.st (fun _ => XS.aload X428.here C.hx rfl (hb C.hby d3_167) rfl rfl) ?_
            show Go p e below s n0 _ _ _ (T428.setTop (mkF m 169 #[rv ad, iv xk.toInt32, iv 4, rv fr, rv tv, rv b301, iv 3, rv (rs xk)] [(.ref b301), (.int t3)]))
            refine Go.st (fun _ => XS.iconst X428.here C.hx rfl (hb C.hby d3_169)) ?_
            show Go p e below s n0 _ _ _ (T428.setTop (mkF m 170 #[rv ad, iv xk.toInt32, iv 4, rv fr, rv tv, rv b301, iv 3, rv (rs xk)] [(.int 2), (.ref b301), (.int t3)]))
            refine Go.iaload C X428 A_428 (by decide) rfl d3_170 ?_
            show Go p e below s n0 _ _ _ (T428.setTop (mkF m 171 #[rv ad, iv xk.toInt32, iv 4, rv fr, rv tv, rv b301, iv 3, rv (rs xk)] [(.int t3), (.int t3)]))
            refine Go.icmp_ne C X428 (pc' := 195) d3_171 (by decide) (by decide) (fun hc => by first | exact absurd hc rfl | exact absurd rfl hc) (fun _ => ?_)
            show Go p e below s n0 _ _ _ (T428.setTop (mkF m 174 #[rv ad, iv xk.toInt32, iv 4, rv fr, rv tv, rv b301, iv 3, rv (rs xk)] []))
            refine Go.st (fun _ => XS.iload X428.here C.hx rfl (hb C.hby d3_174) rfl) ?_
            show Go p e below s n0 _ _ _ (T428.setTop (mkF m 176 #[rv ad, iv xk.toInt32, iv 4, rv fr, rv tv, rv b301, iv 3, rv (rs xk)] [(.int 3)]))
            refine Go.st (fun _ => XS.iconst X428.here C.hx rfl (hb C.hby d3_176)) ?_
            show Go p e below s n0 _ _ _ (T428.setTop (mkF m 177 #[rv ad, iv xk.toInt32, iv 4, rv fr, rv tv, rv b301, iv 3, rv (rs xk)] [(.int 4), (.int 3)]))
            refine Go.icmp_lt C X428 (pc' := 191) d3_177 (by decide) (by decide) (fun _ => ?_) (fun hc => absurd hc (by decide))
            show Go p e below s n0 _ _ _ (T428.setTop (mkF m 191 #[rv ad, iv xk.toInt32, iv 4, rv fr, rv tv, rv b301, iv 3, rv (rs xk)] []))
            refine Go.st (fun _ => XS.iconst X428.here C.hx rfl (hb C.hby d3_191)) ?_
            show Go p e below s n0 _ _ _ (T428.setTop (mkF m 192 #[rv ad, iv xk.toInt32, iv 4, rv fr, rv tv, rv b301, iv 3, rv (rs xk)] [(.int 1)]))
            refine Go.st (fun _ => XS.goto X428.here C.hx rfl (pc0 := 192) (pc' := 196) rfl (hb C.hby d3_192) (by decide) (by decide)) ?_
            show Go p e below s n0 _ _ _ (T428.setTop (mkF m 196 #[rv ad, iv xk.toInt32, iv 4, rv fr, rv tv, rv b301, iv 3, rv (rs xk)] [(.int 1)]))
            exact Go.retZ C X428 (by decide) d3_196 ⟨rfl, K428⟩ (by decide) (by decide)
      · show Go p e below s n0 _ _ _ (T390.setTop (mkF m 43 #[rv ad, iv xk.toInt32, iv 4, rv fr, rv tv, rv b301, iv 1, .unset] []))
        refine Go.st (fun _ => XS.aload X390.here C.hx rfl (hb C.hby d3_43) rfl rfl) ?_
        show Go p e below s n0 _ _ _ (T390.setTop (mkF m 45 #[rv ad, iv xk.toInt32, iv 4, rv fr, rv tv, rv b301, iv 1, .unset] [(.ref b301)]))
        refine Go.st (fun _ => XS.iload X390.here C.hx rfl (hb C.hby d3_45) rfl) ?_
        show Go p e below s n0 _ _ _ (T390.setTop (mkF m 47 #[rv ad, iv xk.toInt32, iv 4, rv fr, rv tv, rv b301, iv 1, .unset] [(.int 1), (.ref b301)]))
        refine Go.st (fun _ => XS.aload X390.here C.hx rfl (hb C.hby d3_47) rfl rfl) ?_
        show Go p e below s n0 _ _ _ (T390.setTop (mkF m 49 #[rv ad, iv xk.toInt32, iv 4, rv fr, rv tv, rv b301, iv 1, .unset] [(.ref tv), (.int 1), (.ref b301)]))
        refine Go.st (fun _ => XS.iconst X390.here C.hx rfl (hb C.hby d3_49)) ?_
        show Go p e below s n0 _ _ _ (T390.setTop (mkF m 50 #[rv ad, iv xk.toInt32, iv 4, rv fr, rv tv, rv b301, iv 1, .unset] [(.int 1), (.ref tv), (.int 1), (.ref b301)]))
        refine Go.iaload C X390 ((AT_.ext E301).other W390 ne_tv_b301) (by decide) rfl d3_50 ?_
        show Go p e below s n0 _ _ _ (T390.setTop (mkF m 51 #[rv ad, iv xk.toInt32, iv 4, rv fr, rv tv, rv b301, iv 1, .unset] [(.int t1), (.int 1), (.ref b301)]))
        refine Go.iastore C X390 A_390 (by decide) (Nat.le_of_ble_eq_true rfl) ge301 d3_51 (fun T438 h438 X438 W438 A438 => ?_)
        have A_438 : AR Z h438 b301 .int [(.int t0), (.int t1), (.int 0), (.int 0)] := A438
        have O_439 : AO Z h438 ad (ouV cc cc rs) := (((O.ext E301).other W390 ne_ad_b301).other W438 ne_ad_b301)
        have AF__440 : AR Z h438 fr .int [(.int g0.toInt32), (.int g1.toInt32), (.int g2.toInt32), (.int g3.toInt32)] := (((AF_.ext E301).other W390 ne_fr_b301).other W438 ne_fr_b301)
        have AT__441 : AR Z h438 tv .int [(.int t0), (.int t1), (.int t2), (.int t3)] := (((AT_.ext E301).other W390 ne_tv_b301).other W438 ne_tv_b301)
        have K438 : Keep h0 h438 [] := K390.wr W438 (Or.inr old_b301)
        show Go p e below s n0 _ _ _ (T438.setTop (mkF m 52 #[rv ad, iv xk.toInt32, iv 4, rv fr, rv tv, rv b301, iv 1, .unset] []))
        refine Go.st (fun _ => XS.iinc X438.here C.hx rfl (hb C.hby d3_52) rfl (l' := #[rv ad, iv xk.toInt32, iv 4, rv fr, rv tv, rv b301, iv 2, .unset]) rfl) ?_
        show Go p e below s n0 _ _ _ (T438.setTop (mkF m 55 #[rv ad, iv xk.toInt32, iv 4, rv fr, rv tv, rv b301, iv 2, .unset] []))
        refine Go.st (fun _ => XS.iloadN X438.here C.hx rfl (hb C.hby d3_55) rfl) ?_
        show Go p e below s n0 _ _ _ (T438.setTop (mkF m 56 #[rv ad, iv xk.toInt32, iv 4, rv fr, rv tv, rv b301, iv 2, .unset] [(.int 4)]))
        refine Go.st (fun _ => XS.iconst X438.here C.hx rfl (hb C.hby d3_56)) ?_
        show Go p e below s n0 _ _ _ (T438.setTop (mkF m 57 #[rv ad, iv xk.toInt32, iv 4, rv fr, rv tv, rv b301, iv 2, .unset] [(.int 2), (.int 4)]))
        refine Go.icmp_le C X438 (pc' := 79) d3_57 (by decide) (by decide) (fun hc => absurd hc (by decide)) (fun _ => ?_)
        show Go p e below s n0 _ _ _ (T438.setTop (mkF m 60 #[rv ad, iv xk.toInt32, iv 4, rv fr, rv tv, rv b301, iv 2, .unset] []))
        refine Go.st (fun _ => XS.aloadN X438.here C.hx rfl (hb C.hby d3_60) rfl rfl) ?_
        show Go p e below s n0 _ _ _ (T438.setTop (mkF m 61 #[rv ad, iv xk.toInt32, iv 4, rv fr, rv tv, rv b301, iv 2, .unset] [(.ref fr)]))
        refine Go.st (fun _ => XS.iconst X438.here C.hx rfl (hb C.hby d3_61)) ?_
        show Go p e below s n0 _ _ _ (T438.setTop (mkF m 62 #[rv ad, iv xk.toInt32, iv 4, rv fr, rv tv, rv b301, iv 2, .unset] [(.int 2), (.ref fr)]))
        refine Go.iaload C X438 AF__440 (by decide) rfl d3_62 ?_
        show Go p e below s n0 _ _ _ (T438.setTop (mkF m 63 #[rv ad, iv xk.toInt32, iv 4, rv fr, rv tv, rv b301, iv 2, .unset] [(.int g2.toInt32)]))
        refine Go.st (fun _ => XS.iloadN X438.here C.hx rfl (hb C.hby d3_63) rfl) ?_
        show Go p e below s n0 _ _ _ (T438.setTop (mkF m 64 #[rv ad, iv xk.toInt32, iv 4, rv fr, rv tv, rv b301, iv 2, .unset] [(.int xk.toInt32), (.int g2.toInt32)]))
        refine Go.icmp_ne C X438 (pc' := 79) d3_64 (by decide) (by decide) (fun hc64_443 => ?_) (fun hc64_443 => ?_)
        · show Go p e below s n0 _ _ _ (T438.setTop (mkF m 79 #[rv ad, iv xk.toInt32, iv 4, rv fr, rv tv, rv b301, iv 2, .unset] []))
          refine Go.st (fun _ => XS.iloadN X438.here C.hx rfl (hb C.hby d3_79) rfl) ?_
          show Go p e below s n0 _ _ _ (T438.setTop (mkF m 80 #[rv ad, iv xk.toInt32, iv 4, rv fr, rv tv, rv b301, iv 2, .unset] [(.int 4)]))
          refine Go.st (fun _ => XS.iconst X438.here C.hx rfl (hb C.hby d3_80)) ?_
          show Go p e below s n0 _ _ _ (T438.setTop (mkF m 81 #[rv ad, iv xk.toInt32, iv 4, rv fr, rv tv, rv b301, iv 2, .unset] [(.int 3), (.int 4)]))
          refine Go.icmp_le C X438 (pc' := 103) d3_81 (by decide) (by decide) (fun hc => absurd hc (by decide)) (fun _ => ?_)
          show Go p e below s n0 _ _ _ (T438.setTop (mkF m 84 #[rv ad, iv xk.toInt32, iv 4, rv fr, rv tv, rv b301, iv 2, .unset] []))
          refine Go.st (fun _ => XS.aloadN X438.here C.hx rfl (hb C.hby d3_84) rfl rfl) ?_
          show Go p e below s n0 _ _ _ (T438.setTop (mkF m 85 #[rv ad, iv xk.toInt32, iv 4, rv fr, rv tv, rv b301, iv 2, .unset] [(.ref fr)]))
          refine Go.st (fun _ => XS.iconst X438.here C.hx rfl (hb C.hby d3_85)) ?_
          show Go p e below s n0 _ _ _ (T438.setTop (mkF m 86 #[rv ad, iv xk.toInt32, iv 4, rv fr, rv tv, rv b301, iv 2, .unset] [(.int 3), (.ref fr)]))
          refine Go.iaload C X438 AF__440 (by decide) rfl d3_86 ?_
          show Go p e below s n0 _ _ _ (T438.setTop (mkF m 87 #[rv ad, iv xk.toInt32, iv 4, rv fr, rv tv, rv b301, iv 2, .unset] [(.int g3.toInt32)]))
          refine Go.st (fun _ => XS.iloadN X438.here C.hx rfl (hb C.hby d3_87) rfl) ?_
          show Go p e below s n0 _ _ _ (T438.setTop (mkF m 88 #[rv ad, iv xk.toInt32, iv 4, rv fr, rv tv, rv b301, iv 2, .unset] [(.int xk.toInt32), (.int g3.toInt32)]))
          refine Go.icmp_ne C X438 (pc' := 103) d3_88 (by decide) (by decide) (fun hc88_445 => ?_) (fun hc88_445 => ?_)
          · have p0 := eq_true ((eqI (by omega) (by omega)).mp hc16_303).symm
            have p1 := eq_true ((eqI (by omega) (by omega)).mp hc40_393).symm
            have p2 := eq_false (fun u : xk = g2 => hc64_443 ((eqI (by omega) (by omega)).mpr u.symm))
            have p3 := eq_false (fun u : xk = g3 => hc88_445 ((eqI (by omega) (by omega)).mpr u.symm))
            have RL : rowP (fsF g0 g1 g2 g3) (tsF t0 t1 t2 t3) 4 4 xk = [t0, t1] := by
              simp only [rowP, cnt, fsF0, tsF0, fsF1, tsF1, fsF2, tsF2, fsF3, tsF3, p0, p1, p2, p3, if_true, if_false]
              try rfl
            have AXX : AR Z h438 (rs xk) .int [(.int t0), (.int t1)] := by have u := (AX_391.other W438 ne__rs_xk__b301); rw [RL] at u; exact u
            show Go p e below s n0 _ _ _ (T438.setTop (mkF m 103 #[rv ad, iv xk.toInt32, iv 4, rv fr, rv tv, rv b301, iv 2, .unset] []))
            refine Go.st (fun _ => XS.aloadN X438.here C.hx rfl (hb C.hby d3_103) rfl rfl) ?_
            show Go p e below s n0 _ _ _ (T438.setTop (mkF m 104 #[rv ad, iv xk.toInt32, iv 4, rv fr, rv tv, rv b301, iv 2, .unset] [(.ref ad)]))
            refine Go.st (fun _ => XS.iloadN X438.here C.hx rfl (hb C.hby d3_104) rfl) ?_
            show Go p e below s n0 _ _ _ (T438.setTop (mkF m 105 #[rv ad, iv xk.toInt32, iv 4, rv fr, rv tv, rv b301, iv 2, .unset] [(.int xk.toInt32), (.ref ad)]))
            refine Go.aaload C X438 (O_439).ar rfl (nn32 (by omega)) (ou_get hc hx) d3_105 ?_
            show Go p e below s n0 _ _ _ (T438.setTop (mkF m 106 #[rv ad, iv xk.toInt32, iv 4, rv fr, rv tv, rv b301, iv 2, .unset] [(.ref (rs xk))]))
            refine Go.st (fun _ => XS.astore X438.here C.hx rfl (hb C.hby d3_106) rfl rfl (l' := #[rv ad, iv xk.toInt32, iv 4, rv fr, rv tv, rv b301, iv 2, rv (rs xk)]) rfl) ?_
            show Go p e below s n0 _ _ _ (T438.setTop (mkF m 108 #[rv ad, iv xk.toInt32, iv 4, rv fr, rv tv, rv b301, iv 2, rv (rs xk)] []))
            refine Go.st (fun _ => XS.aload X438.here C.hx rfl (hb C.hby d3_108) rfl rfl) ?_
            show Go p e below s n0 _ _ _ (T438.setTop (mkF m 110 #[rv ad, iv xk.toInt32, iv 4, rv fr, rv tv, rv b301, iv 2, rv (rs xk)] [(.ref (rs xk))]))
            refine Go.st (fun _ => XS.ifnullNo X438.here C.hx rfl (hb C.hby d3_110) rfl) ?_
            show Go p e below s n0 _ _ _ (T438.setTop (mkF m 113 #[rv ad, iv xk.toInt32, iv 4, rv fr, rv tv, rv b301, iv 2, rv (rs xk)] []))
            refine Go.st (fun _ => XS.aload X438.here C.hx rfl (hb C.hby d3_113) rfl rfl) ?_
            show Go p e below s n0 _ _ _ (T438.setTop (mkF m 115 #[rv ad, iv xk.toInt32, iv 4, rv fr, rv tv, rv b301, iv 2, rv (rs xk)] [(.ref (rs xk))]))
            refine Go.alen C X438 AXX (z := (2 : Int32)) rfl d3_115 ?_
            show Go p e below s n0 _ _ _ (T438.setTop (mkF m 116 #[rv ad, iv xk.toInt32, iv 4, rv fr, rv tv, rv b301, iv 2, rv (rs xk)] [(.int 2)]))
            refine Go.st (fun _ => XS.iload X438.here C.hx rfl (hb C.hby d3_116) rfl) ?_
            show Go p e below s n0 _ _ _ (T438.setTop (mkF m 118 #[rv ad, iv xk.toInt32, iv 4, rv fr, rv tv, rv b301, iv 2, rv (rs xk)] [(.int 2), (.int 2)]))
            refine Go.icmp_eq C X438 (pc' := 123) d3_118 (by decide) (by decide) (fun _ => ?_) (fun hc => absurd hc (by decide))
            show Go p e below s n0 _ _ _ (T438.setTop (mkF m 123 #[rv ad, iv xk.toInt32, iv 4, rv fr, rv tv, rv b301, iv 2, rv (rs xk)] []))
            refine Go.st (fun _ => XS.iload X438.here C.hx rfl (hb C.hby d3_123) rfl) ?_
            show Go p e below s n0 _ _ _ (T438.setTop (mkF m 125 #[rv ad, iv xk.toInt32, iv 4, rv fr, rv tv, rv b301, iv 2, rv (rs xk)] [(.int 2)]))
            refine Go.st (fun _ => XS.iconst X438.here C.hx rfl (hb C.hby d3_125)) ?_
            show Go p e below s n0 _ _ _ (T438.setTop (mkF m 126 #[rv ad, iv xk.toInt32, iv 4, rv fr, rv tv, rv b301, iv 2, rv (rs xk)] [(.int 1), (.int 2)]))
            refine Go.icmp_lt C X438 (pc' := 140) d3_126 (by decide) (by decide) (fun hc => absurd hc (by decide)) (fun _ => ?_)
            show Go p e below s n0 _ _ _ (T438.setTop (mkF m 129 #[rv ad, iv xk.toInt32, iv 4, rv fr, rv tv, rv b301, iv 2, rv (rs xk)] []))
            refine Go.st (fun _ => XS.aload X438.here C.hx rfl (hb C.hby d3_129) rfl rfl) ?_
            show Go p e below s n0 _ _ _ (T438.setTop (mkF m 131 #[rv ad, iv xk.toInt32, iv 4, rv fr, rv tv, rv b301, iv 2, rv (rs xk)] [(.ref (rs xk))]))
            refine Go.st (fun _ => XS.iconst X438.here C.hx rfl (hb C.hby d3_131)) ?_
            show Go p e below s n0 _ _ _ (T438.setTop (mkF m 132 #[rv ad, iv xk.toInt32, iv 4, rv fr, rv tv, rv b301, iv 2, rv (rs xk)] [(.int 0), (.ref (rs xk))]))
            refine Go.iaload C X438 AXX (by decide) rfl d3_132 ?_
            show Go p e below s n0 _ _ _ (T438.setTop (mkF m 133 #[rv ad, iv xk.toInt32, iv 4, rv fr, rv tv, rv b301, iv 2, rv (rs xk)] [(.int t0)]))
            refine Go.st (fun _ => XS.aload X438.here C.hx rfl (hb C.hby d3_133) rfl rfl) ?_
            show Go p e below s n0 _ _ _ (T438.setTop (mkF m 135 #[rv ad, iv xk.toInt32, iv 4, rv fr, rv tv, rv b301, iv 2, rv (rs xk)] [(.ref b301), (.int t0)]))
            refine Go.st (fun _ => XS.iconst X438.here C.hx rfl (hb C.hby d3_135)) ?_
            show Go p e below s n0 _ _ _ (T438.setTop (mkF m 136 #[rv ad, iv xk.toInt32, iv 4, rv fr, rv tv, rv b301, iv 2, rv (rs xk)] [(.int 0), (.ref b301), (.int t0)]))
            refine Go.iaload C X438 A_438 (by decide) rfl d3_136 ?_
            show Go p e below s n0 _ _ _ (T438.setTop (mkF m 137 #[rv ad, iv xk.toInt32, iv 4, rv fr, rv tv, rv b301, iv 2, rv (rs xk)] [(.int t0), (.int t0)]))
            refine Go.icmp_ne C X438 (pc' := 195) d3_137 (by decide) (by decide) (fun hc => by first | exact absurd hc rfl | exact absurd rfl hc) (fun _ => ?_)
            show Go p e below s n0 _ _ _ (T438.setTop (mkF m 140 #[rv ad, iv xk.toInt32, iv 4, rv fr, rv tv, rv b301, iv 2, rv (rs xk)] []))
            refine Go.st (fun _ => XS.iload X438.here C.hx rfl (hb C.hby d3_140) rfl) ?_
            show Go p e below s n0 _ _ _ (T438.setTop (mkF m 142 #[rv ad, iv xk.toInt32, iv 4, rv fr, rv tv, rv b301, iv 2, rv (rs xk)] [(.int 2)]))
            refine Go.st (fun _ => XS.iconst X438.here C.hx rfl (hb C.hby d3_142)) ?_
            show Go p e below s n0 _ _ _ (T438.setTop (mkF m 143 #[rv ad, iv xk.toInt32, iv 4, rv fr, rv tv, rv b301, iv 2, rv (rs xk)] [(.int 2), (.int 2)]))
            refine Go.icmp_lt C X438 (pc' := 157) d3_143 (by decide) (by decide) (fun hc => absurd hc (by decide)) (fun _ => ?_)
            show Go p e below s n0 _ _ _ (T438.setTop (mkF m 146 #[rv ad, iv xk.toInt32, iv 4, rv fr, rv tv, rv b301, iv 2, rv (rs xk)] []))
            refine Go.st (fun _ => XS.aload X438.here C.hx rfl (hb C.hby d3_146) rfl rfl) ?_
            show Go p e below s n0 _ _ _ (T438.setTop (mkF m 148 #[rv ad, iv xk.toInt32, iv 4, rv fr, rv tv, rv b301, iv 2, rv (rs xk)] [(.ref (rs xk))]))
            refine Go.st (fun _ => XS.iconst X438.here C.hx rfl (hb C.hby d3_148)) ?_
            show Go p e below s n0 _ _ _ (T438.setTop (mkF m 149 #[rv ad, iv xk.toInt32, iv 4, rv fr, rv tv, rv b301, iv 2, rv (rs xk)] [(.int 1), (.ref (rs xk))]))
            refine Go.iaload C X438 AXX (by decide) rfl d3_149 ?_
            show Go p e below s n0 _ _ _ (T438.setTop (mkF m 150 #[rv ad, iv xk.toInt32, iv 4, rv fr, rv tv, rv b301, iv 2, rv (rs xk)] [(.int t1)]))
            refine Go.st (fun _ => XS.aload X438.here C.hx rfl (hb C.hby d3_150) rfl rfl) ?_
            show Go p e below s n0 _ _ _ (T438.setTop (mkF m 152 #[rv ad, iv xk.toInt32, iv 4, rv fr, rv tv, rv b301, iv 2, rv (rs xk)] [(.ref b301), (.int t1)]))
            refine Go.st (fun _ => XS.iconst X438.here C.hx rfl (hb C.hby d3_152)) ?_
            show Go p e below s n0 _ _ _ (T438.setTop (mkF m 153 #[rv ad, iv xk.toInt32, iv 4, rv fr, rv tv, rv b301, iv 2, rv (rs xk)] [(.int 1), (.ref b301), (.int t1)]))
            refine Go.iaload C X438 A_438 (by decide) rfl d3_153 ?_
            show Go p e below s n0 _ _ _ (T438.setTop (mkF m 154 #[rv ad, iv xk.toInt32, iv 4, rv fr, rv tv, rv b301, iv 2, rv (rs xk)] [(.int t1), (.int t1)]))
            refine Go.icmp_ne C X438 (pc' := 195) d3_154 (by decide) (by decide) (fun hc => by first | exact absurd hc rfl | exact absurd rfl hc) (fun _ => ?_)
            show Go p e below s n0 _ _ _ (T438.setTop (mkF m 157 #[rv ad, iv xk.toInt32, iv 4, rv fr, rv tv, rv b301, iv 2, rv (rs xk)] []))
            refine Go.st (fun _ => XS.iload X438.here C.hx rfl (hb C.hby d3_157) rfl) ?_
            show Go p e below s n0 _ _ _ (T438.setTop (mkF m 159 #[rv ad, iv xk.toInt32, iv 4, rv fr, rv tv, rv b301, iv 2, rv (rs xk)] [(.int 2)]))
            refine Go.st (fun _ => XS.iconst X438.here C.hx rfl (hb C.hby d3_159)) ?_
            show Go p e below s n0 _ _ _ (T438.setTop (mkF m 160 #[rv ad, iv xk.toInt32, iv 4, rv fr, rv tv, rv b301, iv 2, rv (rs xk)] [(.int 3), (.int 2)]))
            refine Go.icmp_lt C X438 (pc' := 174) d3_160 (by decide) (by decide) (fun _ => ?_) (fun hc => absurd hc (by decide))
            show Go p e below s n0 _ _ _ (T438.setTop (mkF m 174 #[rv ad, iv xk.toInt32, iv 4, rv fr, rv tv, rv b301, iv 2, rv (rs xk)] []))
            refine Go.st (fun _ => XS.iload X438.here C.hx rfl (hb C.hby d3_174) rfl) ?_
            show Go p e below s n0 _ _ _ (T438.setTop (mkF m 176 #[rv ad, iv xk.toInt32, iv 4, rv fr, rv tv, rv b301, iv 2, rv (rs xk)] [(.int 2)]))
            refine Go.st (fun _ => XS.iconst X438.here C.hx rfl (hb C.hby d3_176)) ?_
            show Go p e below s n0 _ _ _ (T438.setTop (mkF m 177 #[rv ad, iv xk.toInt32, iv 4, rv fr, rv tv, rv b301, iv 2, rv (rs xk)] [(.int 4), (.int 2)]))
            refine Go.icmp_lt C X438 (pc' := 191) d3_177 (by decide) (by decide) (fun _ => ?_) (fun hc => absurd hc (by decide))
            show Go p e below s n0 _ _ _ (T438.setTop (mkF m 191 #[rv ad, iv xk.toInt32, iv 4, rv fr, rv tv, rv b301, iv 2, rv (rs xk)] []))
            refine Go.st (fun _ => XS.iconst X438.here C.hx rfl (hb C.hby d3_191)) ?_
            show Go p e below s n0 _ _ _ (T438.setTop (mkF m 192 #[rv ad, iv xk.toInt32, iv 4, rv fr, rv tv, rv b301, iv 2, rv (rs xk)] [(.int 1)]))
            refine Go.st (fun _ => XS.goto X438.here C.hx rfl (pc0 := 192) (pc' := 196) rfl (hb C.hby d3_192) (by decide) (by decide)) ?_
            show Go p e below s n0 _ _ _ (T438.setTop (mkF m 196 #[rv ad, iv xk.toInt32, iv 4, rv fr, rv tv, rv b301, iv 2, rv (rs xk)] [(.int 1)]))
            exact Go.retZ C X438 (by decide) d3_196 ⟨rfl, K438⟩ (by decide) (by decide)
          · show Go p e below s n0 _ _ _ (T438.setTop (mkF m 91 #[rv ad, iv xk.toInt32, iv 4, rv fr, rv tv, rv b301, iv 2, .unset] []))
            refine Go.st (fun _ => XS.aload X438.here C.hx rfl (hb C.hby d3_91) rfl rfl) ?_
            show Go p e below s n0 _ _ _ (T438.setTop (mkF m 93 #[rv ad, iv xk.toInt32, iv 4, rv fr, rv tv, rv b301, iv 2, .unset] [(.ref b301)]))
            refine Go.st (fun _ => XS.iload X438.here C.hx rfl (hb C.hby d3_93) rfl) ?_
            show Go p e below s n0 _ _ _ (T438.setTop (mkF m 95 #[rv ad, iv xk.toInt32, iv 4, rv fr, rv tv, rv b301, iv 2, .unset] [(.int 2), (.ref b301)]))
            refine Go.st (fun _ => XS.aload X438.here C.hx rfl (hb C.hby d3_95) rfl rfl) ?_
            show Go p e below s n0 _ _ _ (T438.setTop (mkF m 97 #[rv ad, iv xk.toInt32, iv 4, rv fr, rv tv, rv b301, iv 2, .unset] [(.ref tv), (.int 2), (.ref b301)]))
            refine Go.st (fun _ => XS.iconst X438.here C.hx rfl (hb C.hby d3_97)) ?_
            show Go p e below s n0 _ _ _ (T438.setTop (mkF m 98 #[rv ad, iv xk.toInt32, iv 4, rv fr, rv tv, rv b301, iv 2, .unset] [(.int 3), (.ref tv), (.int 2), (.ref b301)]))
            refine Go.iaload C X438 AT__441 (by decide) rfl d3_98 ?_
            show Go p e below s n0 _ _ _ (T438.setTop (mkF m 99 #[rv ad, iv xk.toInt32, iv 4, rv fr, rv tv, rv b301, iv 2, .unset] [(.int t3), (.int 2), (.ref b301)]))
            refine Go.iastore C X438 A_438 (by decide) (Nat.le_of_ble_eq_true rfl) ge301 d3_99 (fun T453 h453 X453 W453 A453 => ?_)
            have A_453 : AR Z h453 b301 .int [(.int t0), (.int t1), (.int t3), (.int 0)] := A453
            have AX_454 : AR Z h453 (rs xk) .int ((rowP (fsF g0 g1 g2 g3) (tsF t0 t1 t2 t3) 4 4 xk).map Value.int) := ((AX_391.other W438 ne__rs_xk__b301).other W453 ne__rs_xk__b301)
            have K453 : Keep h0 h453 [] := K438.wr W453 (Or.inr old_b301)
            show Go p e below s n0 _ _ _ (T453.setTop (mkF m 100 #[rv ad, iv xk.toInt32, iv 4, rv fr, rv tv, rv b301, iv 2, .unset] []))
            refine Go.st (fun _ => XS.iinc X453.here C.hx rfl (hb C.hby d3_100) rfl (l' := #[rv ad, iv xk.toInt32, iv 4, rv fr, rv tv, rv b301, iv 3, .unset]) rfl) ?_
            have p0 := eq_true ((eqI (by omega) (by omega)).mp hc16_303).symm
            have p1 := eq_true ((eqI (by omega) (by omega)).mp hc40_393).symm
            have p2 := eq_false (fun u : xk = g2 => hc64_443 ((eqI (by omega) (by omega)).mpr u.symm))
            have p3 := eq_true ((eqI (by omega) (by omega)).mp hc88_445).symm
            have RL : rowP (fsF g0 g1 g2 g3) (tsF t0 t1 t2 t3) 4 4 xk = [t0, t1, t3] := by
              simp only [rowP, cnt, fsF0, tsF0, fsF1, tsF1, fsF2, tsF2, fsF3, tsF3, p0, p1, p2, p3, if_true, if_false]
              try rfl
            have AXX : AR Z h453 (rs xk) .int [(.int t0), (.int t1), (.int t3)] := by have u := AX_454; rw [RL] at u; exact u
            show Go p e below s n0 _ _ _ (T453.setTop (mkF m 103 #[rv ad, iv xk.toInt32, iv 4, rv fr, rv tv, rv b301, iv 3, .unset] []))
            refine Go.st (fun _ => XS.aloadN X453.here C.hx rfl (hb C.hby d3_103) rfl rfl) ?_
            show Go p e below s n0 _ _ _ (T453.setTop (mkF m 104 #[rv ad, iv xk.toInt32, iv 4, rv fr, rv tv, rv b301, iv 3, .unset] [(.ref ad)]))
            refine Go.st (fun _ => XS.iloadN X453.here C.hx rfl (hb C.hby d3_104) rfl) ?_
            show Go p e below s n0 _ _ _ (T453.setTop (mkF m 105 #[rv ad, iv xk.toInt32, iv 4, rv fr, rv tv, rv b301, iv 3, .unset] [(.int xk.toInt32), (.ref ad)]))
            refine Go.aaload C X453 ((O_439.other W453 ne_ad_b301)).ar rfl (nn32 (by omega)) (ou_get hc hx) d3_105 ?_
            show Go p e below s n0 _ _ _ (T453.setTop (mkF m 106 #[rv ad, iv xk.toInt32, iv 4, rv fr, rv tv, rv b301, iv 3, .unset] [(.ref (rs xk))]))
            refine Go.st (fun _ => XS.astore X453.here C.hx rfl (hb C.hby d3_106) rfl rfl (l' := #[rv ad, iv xk.toInt32, iv 4, rv fr, rv tv, rv b301, iv 3, rv (rs xk)]) rfl) ?_
            show Go p e below s n0 _ _ _ (T453.setTop (mkF m 108 #[rv ad, iv xk.toInt32, iv 4, rv fr, rv tv, rv b301, iv 3, rv (rs xk)] []))
            refine Go.st (fun _ => XS.aload X453.here C.hx rfl (hb C.hby d3_108) rfl rfl) ?_
            show Go p e below s n0 _ _ _ (T453.setTop (mkF m 110 #[rv ad, iv xk.toInt32, iv 4, rv fr, rv tv, rv b301, iv 3, rv (rs xk)] [(.ref (rs xk))]))
            refine Go.st (fun _ => XS.ifnullNo X453.here C.hx rfl (hb C.hby d3_110) rfl) ?_
            show Go p e below s n0 _ _ _ (T453.setTop (mkF m 113 #[rv ad, iv xk.toInt32, iv 4, rv fr, rv tv, rv b301, iv 3, rv (rs xk)] []))
            refine Go.st (fun _ => XS.aload X453.here C.hx rfl (hb C.hby d3_113) rfl rfl) ?_
            show Go p e below s n0 _ _ _ (T453.setTop (mkF m 115 #[rv ad, iv xk.toInt32, iv 4, rv fr, rv tv, rv b301, iv 3, rv (rs xk)] [(.ref (rs xk))]))
            refine Go.alen C X453 AXX (z := (3 : Int32)) rfl d3_115 ?_
            show Go p e below s n0 _ _ _ (T453.setTop (mkF m 116 #[rv ad, iv xk.toInt32, iv 4, rv fr, rv tv, rv b301, iv 3, rv (rs xk)] [(.int 3)]))
            refine Go.st (fun _ => XS.iload X453.here C.hx rfl (hb C.hby d3_116) rfl) ?_
            show Go p e below s n0 _ _ _ (T453.setTop (mkF m 118 #[rv ad, iv xk.toInt32, iv 4, rv fr, rv tv, rv b301, iv 3, rv (rs xk)] [(.int 3), (.int 3)]))
            refine Go.icmp_eq C X453 (pc' := 123) d3_118 (by decide) (by decide) (fun _ => ?_) (fun hc => absurd hc (by decide))
            show Go p e below s n0 _ _ _ (T453.setTop (mkF m 123 #[rv ad, iv xk.toInt32, iv 4, rv fr, rv tv, rv b301, iv 3, rv (rs xk)] []))
            refine Go.st (fun _ => XS.iload X453.here C.hx rfl (hb C.hby d3_123) rfl) ?_
            show Go p e below s n0 _ _ _ (T453.setTop (mkF m 125 #[rv ad, iv xk.toInt32, iv 4, rv fr, rv tv, rv b301, iv 3, rv (rs xk)] [(.int 3)]))
            refine Go.st (fun _ => XS.iconst X453.here C.hx rfl (hb C.hby d3_125)) ?_
            show Go p e below s n0 _ _ _ (T453.setTop (mkF m 126 #[rv ad, iv xk.toInt32, iv 4, rv fr, rv tv, rv b301, iv 3, rv (rs xk)] [(.int 1), (.int 3)]))
            refine Go.icmp_lt C X453 (pc' := 140) d3_126 (by decide) (by decide) (fun hc => absurd hc (by decide)) (fun _ => ?_)
            show Go p e below s n0 _ _ _ (T453.setTop (mkF m 129 #[rv ad, iv xk.toInt32, iv 4, rv fr, rv tv, rv b301, iv 3, rv (rs xk)] []))
            refine Go.st (fun _ => XS.aload X453.here C.hx rfl (hb C.hby d3_129) rfl rfl) ?_
            show Go p e below s n0 _ _ _ (T453.setTop (mkF m 131 #[rv ad, iv xk.toInt32, iv 4, rv fr, rv tv, rv b301, iv 3, rv (rs xk)] [(.ref (rs xk))]))
            refine Go.st (fun _ => XS.iconst X453.here C.hx rfl (hb C.hby d3_131)) ?_
            show Go p e below s n0 _ _ _ (T453.setTop (mkF m 132 #[rv ad, iv xk.toInt32, iv 4, rv fr, rv tv, rv b301, iv 3, rv (rs xk)] [(.int 0), (.ref (rs xk))]))
            refine Go.iaload C X453 AXX (by decide) rfl d3_132 ?_
            show Go p e below s n0 _ _ _ (T453.setTop (mkF m 133 #[rv ad, iv xk.toInt32, iv 4, rv fr, rv tv, rv b301, iv 3, rv (rs xk)] [(.int t0)]))
            refine Go.st (fun _ => XS.aload X453.here C.hx rfl (hb C.hby d3_133) rfl rfl) ?_
            show Go p e below s n0 _ _ _ (T453.setTop (mkF m 135 #[rv ad, iv xk.toInt32, iv 4, rv fr, rv tv, rv b301, iv 3, rv (rs xk)] [(.ref b301), (.int t0)]))
            refine Go.st (fun _ => XS.iconst X453.here C.hx rfl (hb C.hby d3_135)) ?_
            show Go p e below s n0 _ _ _ (T453.setTop (mkF m 136 #[rv ad, iv xk.toInt32, iv 4, rv fr, rv tv, rv b301, iv 3, rv (rs xk)] [(.int 0), (.ref b301), (.int t0)]))
            refine Go.iaload C X453 A_453 (by decide) rfl d3_136 ?_
            show Go p e below s n0 _ _ _ (T453.setTop (mkF m 137 #[rv ad, iv xk.toInt32, iv 4, rv fr, rv tv, rv b301, iv 3, rv (rs xk)] [(.int t0), (.int t0)]))
            refine Go.icmp_ne C X453 (pc' := 195) d3_137 (by decide) (by decide) (fun hc => by first | exact absurd hc rfl | exact absurd rfl hc) (fun _ => ?_)
            show Go p e below s n0 _ _ _ (T453.setTop (mkF m 140 #[rv ad, iv xk.toInt32, iv 4, rv fr, rv tv, rv b301, iv 3, rv (rs xk)] []))
            refine Go.st (fun _ => XS.iload X453.here C.hx rfl (hb C.hby d3_140) rfl) ?_
            show Go p e below s n0 _ _ _ (T453.setTop (mkF m 142 #[rv ad, iv xk.toInt32, iv 4, rv fr, rv tv, rv b301, iv 3, rv (rs xk)] [(.int 3)]))
            refine Go.st (fun _ => XS.iconst X453.here C.hx rfl (hb C.hby d3_142)) ?_
            show Go p e below s n0 _ _ _ (T453.setTop (mkF m 143 #[rv ad, iv xk.toInt32, iv 4, rv fr, rv tv, rv b301, iv 3, rv (rs xk)] [(.int 2), (.int 3)]))
            refine Go.icmp_lt C X453 (pc' := 157) d3_143 (by decide) (by decide) (fun hc => absurd hc (by decide)) (fun _ => ?_)
            show Go p e below s n0 _ _ _ (T453.setTop (mkF m 146 #[rv ad, iv xk.toInt32, iv 4, rv fr, rv tv, rv b301, iv 3, rv (rs xk)] []))
            refine Go.st (fun _ => XS.aload X453.here C.hx rfl (hb C.hby d3_146) rfl rfl) ?_
            show Go p e below s n0 _ _ _ (T453.setTop (mkF m 148 #[rv ad, iv xk.toInt32, iv 4, rv fr, rv tv, rv b301, iv 3, rv (rs xk)] [(.ref (rs xk))]))
            refine Go.st (fun _ => XS.iconst X453.here C.hx rfl (hb C.hby d3_148)) ?_
            show Go p e below s n0 _ _ _ (T453.setTop (mkF m 149 #[rv ad, iv xk.toInt32, iv 4, rv fr, rv tv, rv b301, iv 3, rv (rs xk)] [(.int 1), (.ref (rs xk))]))
            refine Go.iaload C X453 AXX (by decide) rfl d3_149 ?_
            show Go p e below s n0 _ _ _ (T453.setTop (mkF m 150 #[rv ad, iv xk.toInt32, iv 4, rv fr, rv tv, rv b301, iv 3, rv (rs xk)] [(.int t1)]))
            refine Go.st (fun _ => XS.aload X453.here C.hx rfl (hb C.hby d3_150) rfl rfl) ?_
            show Go p e below s n0 _ _ _ (T453.setTop (mkF m 152 #[rv ad, iv xk.toInt32, iv 4, rv fr, rv tv, rv b301, iv 3, rv (rs xk)] [(.ref b301), (.int t1)]))
            refine Go.st (fun _ => XS.iconst X453.here C.hx rfl (hb C.hby d3_152)) ?_
            show Go p e below s n0 _ _ _ (T453.setTop (mkF m 153 #[rv ad, iv xk.toInt32, iv 4, rv fr, rv tv, rv b301, iv 3, rv (rs xk)] [(.int 1), (.ref b301), (.int t1)]))
            refine Go.iaload C X453 A_453 (by decide) rfl d3_153 ?_
            show Go p e below s n0 _ _ _ (T453.setTop (mkF m 154 #[rv ad, iv xk.toInt32, iv 4, rv fr, rv tv, rv b301, iv 3, rv (rs xk)] [(.int t1), (.int t1)]))
            refine Go.icmp_ne C X453 (pc' := 195) d3_154 (by decide) (by decide) (fun hc => by first | exact absurd hc rfl | exact absurd rfl hc) (fun _ => ?_)
            show Go p e below s n0 _ _ _ (T453.setTop (mkF m 157 #[rv ad, iv xk.toInt32, iv 4, rv fr, rv tv, rv b301, iv 3, rv (rs xk)] []))
            refine Go.st (fun _ => XS.iload X453.here C.hx rfl (hb C.hby d3_157) rfl) ?_
            show Go p e below s n0 _ _ _ (T453.setTop (mkF m 159 #[rv ad, iv xk.toInt32, iv 4, rv fr, rv tv, rv b301, iv 3, rv (rs xk)] [(.int 3)]))
            refine Go.st (fun _ => XS.iconst X453.here C.hx rfl (hb C.hby d3_159)) ?_
            show Go p e below s n0 _ _ _ (T453.setTop (mkF m 160 #[rv ad, iv xk.toInt32, iv 4, rv fr, rv tv, rv b301, iv 3, rv (rs xk)] [(.int 3), (.int 3)]))
            refine Go.icmp_lt C X453 (pc' := 174) d3_160 (by decide) (by decide) (fun hc => absurd hc (by decide)) (fun _ => ?_)
            show Go p e below s n0 _ _ _ (T453.setTop (mkF m 163 #[rv ad, iv xk.toInt32, iv 4, rv fr, rv tv, rv b301, iv 3, rv (rs xk)] []))
            refine Go.st (fun _ => XS.aload X453.here C.hx rfl (hb C.hby d3_163) rfl rfl) ?_
            show Go p e below s n0 _ _ _ (T453.setTop (mkF m 165 #[rv ad, iv xk.toInt32, iv 4, rv fr, rv tv, rv b301, iv 3, rv (rs xk)] [(.ref (rs xk))]))
            refine Go.st (fun _ => XS.iconst X453.here C.hx rfl (hb C.hby d3_165)) ?_
            show Go p e below s n0 _ _ _ (T453.setTop (mkF m 166 #[rv ad, iv xk.toInt32, iv 4, rv fr, rv tv, rv b301, iv 3, rv (rs xk)] [(.int 2), (.ref (rs xk))]))
            refine Go.iaload C X453 AXX (by decide) rfl d3_166 ?_
            show Go p e below s n0 _ _ _ (T453.setTop (mkF m 167 #[rv ad, iv xk.toInt32, iv 4, rv fr, rv tv, rv b301, iv 3, rv (rs xk)] [(.int t3)]))
            refine Go.st (fun _ => XS.aload X453.here C.hx rfl (hb C.hby d3_167) rfl rfl) ?_
            show Go p e below s n0 _ _ _ (T453.setTop (mkF m 169 #[rv ad, iv xk.toInt32, iv 4, rv fr, rv tv, rv b301, iv 3, rv (rs xk)] [(.ref b301), (.int t3)]))
            refine Go.st (fun _ => XS.iconst X453.here C.hx rfl (hb C.hby d3_169)) ?_
            show Go p e below s n0 _ _ _ (T453.setTop (mkF m 170 #[rv ad, iv xk.toInt32, iv 4, rv fr, rv tv, rv b301, iv 3, rv (rs xk)] [(.int 2), (.ref b301), (.int t3)]))
            refine Go.iaload C X453 A_453 (by decide) rfl d3_170 ?_
            show Go p e below s n0 _ _ _ (T453.setTop (mkF m 171 #[rv ad, iv xk.toInt32, iv 4, rv fr, rv tv, rv b301, iv 3, rv (rs xk)] [(.int t3), (.int t3)]))
            refine Go.icmp_ne C X453 (pc' := 195) d3_171 (by decide) (by decide) (fun hc => by first | exact absurd hc rfl | exact absurd rfl hc) (fun _ => ?_)
            show Go p e below s n0 _ _ _ (T453.setTop (mkF m 174 #[rv ad, iv xk.toInt32, iv 4, rv fr, rv tv, rv b301, iv 3, rv (rs xk)] []))
            refine Go.st (fun _ => XS.iload X453.here C.hx rfl (hb C.hby d3_174) rfl) ?_
            show Go p e below s n0 _ _ _ (T453.setTop (mkF m 176 #[rv ad, iv xk.toInt32, iv 4, rv fr, rv tv, rv b301, iv 3, rv (rs xk)] [(.int 3)]))
            refine Go.st (fun _ => XS.iconst X453.here C.hx rfl (hb C.hby d3_176)) ?_
            show Go p e below s n0 _ _ _ (T453.setTop (mkF m 177 #[rv ad, iv xk.toInt32, iv 4, rv fr, rv tv, rv b301, iv 3, rv (rs xk)] [(.int 4), (.int 3)]))
            refine Go.icmp_lt C X453 (pc' := 191) d3_177 (by decide) (by decide) (fun _ => ?_) (fun hc => absurd hc (by decide))
            show Go p e below s n0 _ _ _ (T453.setTop (mkF m 191 #[rv ad, iv xk.toInt32, iv 4, rv fr, rv tv, rv b301, iv 3, rv (rs xk)] []))
            refine Go.st (fun _ => XS.iconst X453.here C.hx rfl (hb C.hby d3_191)) ?_
            show Go p e below s n0 _ _ _ (T453.setTop (mkF m 192 #[rv ad, iv xk.toInt32, iv 4, rv fr, rv tv, rv b301, iv 3, rv (rs xk)] [(.int 1)]))
            refine Go.st (fun _ => XS.goto X453.here C.hx rfl (pc0 := 192) (pc' := 196) rfl (hb C.hby d3_192) (by decide) (by decide)) ?_
            show Go p e below s n0 _ _ _ (T453.setTop (mkF m 196 #[rv ad, iv xk.toInt32, iv 4, rv fr, rv tv, rv b301, iv 3, rv (rs xk)] [(.int 1)]))
            exact Go.retZ C X453 (by decide) d3_196 ⟨rfl, K453⟩ (by decide) (by decide)
        · show Go p e below s n0 _ _ _ (T438.setTop (mkF m 67 #[rv ad, iv xk.toInt32, iv 4, rv fr, rv tv, rv b301, iv 2, .unset] []))
          refine Go.st (fun _ => XS.aload X438.here C.hx rfl (hb C.hby d3_67) rfl rfl) ?_
          show Go p e below s n0 _ _ _ (T438.setTop (mkF m 69 #[rv ad, iv xk.toInt32, iv 4, rv fr, rv tv, rv b301, iv 2, .unset] [(.ref b301)]))
          refine Go.st (fun _ => XS.iload X438.here C.hx rfl (hb C.hby d3_69) rfl) ?_
          show Go p e below s n0 _ _ _ (T438.setTop (mkF m 71 #[rv ad, iv xk.toInt32, iv 4, rv fr, rv tv, rv b301, iv 2, .unset] [(.int 2), (.ref b301)]))
          refine Go.st (fun _ => XS.aload X438.here C.hx rfl (hb C.hby d3_71) rfl rfl) ?_
          show Go p e below s n0 _ _ _ (T438.setTop (mkF m 73 #[rv ad, iv xk.toInt32, iv 4, rv fr, rv tv, rv b301, iv 2, .unset] [(.ref tv), (.int 2), (.ref b301)]))
          refine Go.st (fun _ => XS.iconst X438.here C.hx rfl (hb C.hby d3_73)) ?_
          show Go p e below s n0 _ _ _ (T438.setTop (mkF m 74 #[rv ad, iv xk.toInt32, iv 4, rv fr, rv tv, rv b301, iv 2, .unset] [(.int 2), (.ref tv), (.int 2), (.ref b301)]))
          refine Go.iaload C X438 AT__441 (by decide) rfl d3_74 ?_
          show Go p e below s n0 _ _ _ (T438.setTop (mkF m 75 #[rv ad, iv xk.toInt32, iv 4, rv fr, rv tv, rv b301, iv 2, .unset] [(.int t2), (.int 2), (.ref b301)]))
          refine Go.iastore C X438 A_438 (by decide) (Nat.le_of_ble_eq_true rfl) ge301 d3_75 (fun T463 h463 X463 W463 A463 => ?_)
          have A_463 : AR Z h463 b301 .int [(.int t0), (.int t1), (.int t2), (.int 0)] := A463
          have AX_464 : AR Z h463 (rs xk) .int ((rowP (fsF g0 g1 g2 g3) (tsF t0 t1 t2 t3) 4 4 xk).map Value.int) := ((AX_391.other W438 ne__rs_xk__b301).other W463 ne__rs_xk__b301)
          have K463 : Keep h0 h463 [] := K438.wr W463 (Or.inr old_b301)
          show Go p e below s n0 _ _ _ (T463.setTop (mkF m 76 #[rv ad, iv xk.toInt32, iv 4, rv fr, rv tv, rv b301, iv 2, .unset] []))
          refine Go.st (fun _ => XS.iinc X463.here C.hx rfl (hb C.hby d3_76) rfl (l' := #[rv ad, iv xk.toInt32, iv 4, rv fr, rv tv, rv b301, iv 3, .unset]) rfl) ?_
          show Go p e below s n0 _ _ _ (T463.setTop (mkF m 79 #[rv ad, iv xk.toInt32, iv 4, rv fr, rv tv, rv b301, iv 3, .unset] []))
          refine Go.st (fun _ => XS.iloadN X463.here C.hx rfl (hb C.hby d3_79) rfl) ?_
          show Go p e below s n0 _ _ _ (T463.setTop (mkF m 80 #[rv ad, iv xk.toInt32, iv 4, rv fr, rv tv, rv b301, iv 3, .unset] [(.int 4)]))
          refine Go.st (fun _ => XS.iconst X463.here C.hx rfl (hb C.hby d3_80)) ?_
          show Go p e below s n0 _ _ _ (T463.setTop (mkF m 81 #[rv ad, iv xk.toInt32, iv 4, rv fr, rv tv, rv b301, iv 3, .unset] [(.int 3), (.int 4)]))
          refine Go.icmp_le C X463 (pc' := 103) d3_81 (by decide) (by decide) (fun hc => absurd hc (by decide)) (fun _ => ?_)
          show Go p e below s n0 _ _ _ (T463.setTop (mkF m 84 #[rv ad, iv xk.toInt32, iv 4, rv fr, rv tv, rv b301, iv 3, .unset] []))
          refine Go.st (fun _ => XS.aloadN X463.here C.hx rfl (hb C.hby d3_84) rfl rfl) ?_
          show Go p e below s n0 _ _ _ (T463.setTop (mkF m 85 #[rv ad, iv xk.toInt32, iv 4, rv fr, rv tv, rv b301, iv 3, .unset] [(.ref fr)]))
          refine Go.st (fun _ => XS.iconst X463.here C.hx rfl (hb C.hby d3_85)) ?_
          show Go p e below s n0 _ _ _ (T463.setTop (mkF m 86 #[rv ad, iv xk.toInt32, iv 4, rv fr, rv tv, rv b301, iv 3, .unset] [(.int 3), (.ref fr)]))
          refine Go.iaload C X463 (AF__440.other W463 ne_fr_b301) (by decide) rfl d3_86 ?_
          show Go p e below s n0 _ _ _ (T463.setTop (mkF m 87 #[rv ad, iv xk.toInt32, iv 4, rv fr, rv tv, rv b301, iv 3, .unset] [(.int g3.toInt32)]))
          refine Go.st (fun _ => XS.iloadN X463.here C.hx rfl (hb C.hby d3_87) rfl) ?_
          show Go p e below s n0 _ _ _ (T463.setTop (mkF m 88 #[rv ad, iv xk.toInt32, iv 4, rv fr, rv tv, rv b301, iv 3, .unset] [(.int xk.toInt32), (.int g3.toInt32)]))
          refine Go.icmp_ne C X463 (pc' := 103) d3_88 (by decide) (by decide) (fun hc88_466 => ?_) (fun hc88_466 => ?_)
          · have p0 := eq_true ((eqI (by omega) (by omega)).mp hc16_303).symm
            have p1 := eq_true ((eqI (by omega) (by omega)).mp hc40_393).symm
            have p2 := eq_true ((eqI (by omega) (by omega)).mp hc64_443).symm
            have p3 := eq_false (fun u : xk = g3 => hc88_466 ((eqI (by omega) (by omega)).mpr u.symm))
            have RL : rowP (fsF g0 g1 g2 g3) (tsF t0 t1 t2 t3) 4 4 xk = [t0, t1, t2] := by
              simp only [rowP, cnt, fsF0, tsF0, fsF1, tsF1, fsF2, tsF2, fsF3, tsF3, p0, p1, p2, p3, if_true, if_false]
              try rfl
            have AXX : AR Z h463 (rs xk) .int [(.int t0), (.int t1), (.int t2)] := by have u := AX_464; rw [RL] at u; exact u
            show Go p e below s n0 _ _ _ (T463.setTop (mkF m 103 #[rv ad, iv xk.toInt32, iv 4, rv fr, rv tv, rv b301, iv 3, .unset] []))
            refine Go.st (fun _ => XS.aloadN X463.here C.hx rfl (hb C.hby d3_103) rfl rfl) ?_
            show Go p e below s n0 _ _ _ (T463.setTop (mkF m 104 #[rv ad, iv xk.toInt32, iv 4, rv fr, rv tv, rv b301, iv 3, .unset] [(.ref ad)]))
            refine Go.st (fun _ => XS.iloadN X463.here C.hx rfl (hb C.hby d3_104) rfl) ?_
            show Go p e below s n0 _ _ _ (T463.setTop (mkF m 105 #[rv ad, iv xk.toInt32, iv 4, rv fr, rv tv, rv b301, iv 3, .unset] [(.int xk.toInt32), (.ref ad)]))
            refine Go.aaload C X463 ((O_439.other W463 ne_ad_b301)).ar rfl (nn32 (by omega)) (ou_get hc hx) d3_105 ?_
            show Go p e below s n0 _ _ _ (T463.setTop (mkF m 106 #[rv ad, iv xk.toInt32, iv 4, rv fr, rv tv, rv b301, iv 3, .unset] [(.ref (rs xk))]))
            refine Go.st (fun _ => XS.astore X463.here C.hx rfl (hb C.hby d3_106) rfl rfl (l' := #[rv ad, iv xk.toInt32, iv 4, rv fr, rv tv, rv b301, iv 3, rv (rs xk)]) rfl) ?_
            show Go p e below s n0 _ _ _ (T463.setTop (mkF m 108 #[rv ad, iv xk.toInt32, iv 4, rv fr, rv tv, rv b301, iv 3, rv (rs xk)] []))
            refine Go.st (fun _ => XS.aload X463.here C.hx rfl (hb C.hby d3_108) rfl rfl) ?_
            show Go p e below s n0 _ _ _ (T463.setTop (mkF m 110 #[rv ad, iv xk.toInt32, iv 4, rv fr, rv tv, rv b301, iv 3, rv (rs xk)] [(.ref (rs xk))]))
            refine Go.st (fun _ => XS.ifnullNo X463.here C.hx rfl (hb C.hby d3_110) rfl) ?_
            show Go p e below s n0 _ _ _ (T463.setTop (mkF m 113 #[rv ad, iv xk.toInt32, iv 4, rv fr, rv tv, rv b301, iv 3, rv (rs xk)] []))
            refine Go.st (fun _ => XS.aload X463.here C.hx rfl (hb C.hby d3_113) rfl rfl) ?_
            show Go p e below s n0 _ _ _ (T463.setTop (mkF m 115 #[rv ad, iv xk.toInt32, iv 4, rv fr, rv tv, rv b301, iv 3, rv (rs xk)] [(.ref (rs xk))]))
            refine Go.alen C X463 AXX (z := (3 : Int32)) rfl d3_115 ?_
            show Go p e below s n0 _ _ _ (T463.setTop (mkF m 116 #[rv ad, iv xk.toInt32, iv 4, rv fr, rv tv, rv b301, iv 3, rv (rs xk)] [(.int 3)]))
            refine Go.st (fun _ => XS.iload X463.here C.hx rfl (hb C.hby d3_116) rfl) ?_
            show Go p e below s n0 _ _ _ (T463.setTop (mkF m 118 #[rv ad, iv xk.toInt32, iv 4, rv fr, rv tv, rv b301, iv 3, rv (rs xk)] [(.int 3), (.int 3)]))
            refine Go.icmp_eq C X463 (pc' := 123) d3_118 (by decide) (by decide) (fun _ => ?_) (fun hc => absurd hc (by decide))
            show Go p e below s n0 _ _ _ (T463.setTop (mkF m 123 #[rv ad, iv xk.toInt32, iv 4, rv fr, rv tv, rv b301, iv 3, rv (rs xk)] []))
            refine Go.st (fun _ => XS.iload X463.here C.hx rfl (hb C.hby d3_123) rfl) ?_
            show Go p e below s n0 _ _ _ (T463.setTop (mkF m 125 #[rv ad, iv xk.toInt32, iv 4, rv fr, rv tv, rv b301, iv 3, rv (rs xk)] [(.int 3)]))
            refine Go.st (fun _ => XS.iconst X463.here C.hx rfl (hb C.hby d3_125)) ?_
            show Go p e below s n0 _ _ _ (T463.setTop (mkF m 126 #[rv ad, iv xk.toInt32, iv 4, rv fr, rv tv, rv b301, iv 3, rv (rs xk)] [(.int 1), (.int 3)]))
            refine Go.icmp_lt C X463 (pc' := 140) d3_126 (by decide) (by decide) (fun hc => absurd hc (by decide)) (fun _ => ?_)
            show Go p e below s n0 _ _ _ (T463.setTop (mkF m 129 #[rv ad, iv xk.toInt32, iv 4, rv fr, rv tv, rv b301, iv 3, rv (rs xk)] []))
            refine Go.st (fun _ => XS.aload X463.here C.hx rfl (hb C.hby d3_129) rfl rfl) ?_
            show Go p e below s n0 _ _ _ (T463.setTop (mkF m 131 #[rv ad, iv xk.toInt32, iv 4, rv fr, rv tv, rv b301, iv 3, rv (rs xk)] [(.ref (rs xk))]))
            refine Go.st (fun _ => XS.iconst X463.here C.hx rfl (hb C.hby d3_131)) ?_
            show Go p e below s n0 _ _ _ (T463.setTop (mkF m 132 #[rv ad, iv xk.toInt32, iv 4, rv fr, rv tv, rv b301, iv 3, rv (rs xk)] [(.int 0), (.ref (rs xk))]))
            refine Go.iaload C X463 AXX (by decide) rfl d3_132 ?_
            show Go p e below s n0 _ _ _ (T463.setTop (mkF m 133 #[rv ad, iv xk.toInt32, iv 4, rv fr, rv tv, rv b301, iv 3, rv (rs xk)] [(.int t0)]))
            refine Go.st (fun _ => XS.aload X463.here C.hx rfl (hb C.hby d3_133) rfl rfl) ?_
            show Go p e below s n0 _ _ _ (T463.setTop (mkF m 135 #[rv ad, iv xk.toInt32, iv 4, rv fr, rv tv, rv b301, iv 3, rv (rs xk)] [(.ref b301), (.int t0)]))
            refine Go.st (fun _ => XS.iconst X463.here C.hx rfl (hb C.hby d3_135)) ?_
            show Go p e below s n0 _ _ _ (T463.setTop (mkF m 136 #[rv ad, iv xk.toInt32, iv 4, rv fr, rv tv, rv b301, iv 3, rv (rs xk)] [(.int 0), (.ref b301), (.int t0)]))
            refine Go.iaload C X463 A_463 (by decide) rfl d3_136 ?_
            show Go p e below s n0 _ _ _ (T463.setTop (mkF m 137 #[rv ad, iv xk.toInt32, iv 4, rv fr, rv tv, rv b301, iv 3, rv (rs xk)] [(.int t0), (.int t0)]))
            refine Go.icmp_ne C X463 (pc' := 195) d3_137 (by decide) (by decide) (fun hc => by first | exact absurd hc rfl | exact absurd rfl hc) (fun _ => ?_)
            show Go p e below s n0 _ _ _ (T463.setTop (mkF m 140 #[rv ad, iv xk.toInt32, iv 4, rv fr, rv tv, rv b301, iv 3, rv (rs xk)] []))
            refine Go.st (fun _ => XS.iload X463.here C.hx rfl (hb C.hby d3_140) rfl) ?_
            show Go p e below s n0 _ _ _ (T463.setTop (mkF m 142 #[rv ad, iv xk.toInt32, iv 4, rv fr, rv tv, rv b301, iv 3, rv (rs xk)] [(.int 3)]))
            refine Go.st (fun _ => XS.iconst X463.here C.hx rfl (hb C.hby d3_142)) ?_
            show Go p e below s n0 _ _ _ (T463.setTop (mkF m 143 #[rv ad, iv xk.toInt32, iv 4, rv fr, rv tv, rv b301, iv 3, rv (rs xk)] [(.int 2), (.int 3)]))
            refine Go.icmp_lt C X463 (pc' := 157) d3_143 (by decide) (by decide) (fun hc => absurd hc (by decide)) (fun _ => ?_)
            show Go p e below s n0 _ _ _ (T463.setTop (mkF m 146 #[rv ad, iv xk.toInt32, iv 4, rv fr, rv tv, rv b301, iv 3, rv (rs xk)] []))
            refine Go.st (fun _ => XS.aload X463.here C.hx rfl (hb C.hby d3_146) rfl rfl) ?_
            show Go p e below s n0 _ _ _ (T463.setTop (mkF m 148 #[rv ad, iv xk.toInt32, iv 4, rv fr, rv tv, rv b301, iv 3, rv (rs xk)] [(.ref (rs xk))]))
            refine Go.st (fun _ => XS.iconst X463.here C.hx rfl (hb C.hby d3_148)) ?_
            show Go p e below s n0 _ _ _ (T463.setTop (mkF m 149 #[rv ad, iv xk.toInt32, iv 4, rv fr, rv tv, rv b301, iv 3, rv (rs xk)] [(.int 1), (.ref (rs xk))]))
            refine Go.iaload C X463 AXX (by decide) rfl d3_149 ?_
            show Go p e below s n0 _ _ _ (T463.setTop (mkF m 150 #[rv ad, iv xk.toInt32, iv 4, rv fr, rv tv, rv b301, iv 3, rv (rs xk)] [(.int t1)]))
            refine Go.st (fun _ => XS.aload X463.here C.hx rfl (hb C.hby d3_150) rfl rfl) ?_
            show Go p e below s n0 _ _ _ (T463.setTop (mkF m 152 #[rv ad, iv xk.toInt32, iv 4, rv fr, rv tv, rv b301, iv 3, rv (rs xk)] [(.ref b301), (.int t1)]))
            refine Go.st (fun _ => XS.iconst X463.here C.hx rfl (hb C.hby d3_152)) ?_
            show Go p e below s n0 _ _ _ (T463.setTop (mkF m 153 #[rv ad, iv xk.toInt32, iv 4, rv fr, rv tv, rv b301, iv 3, rv (rs xk)] [(.int 1), (.ref b301), (.int t1)]))
            refine Go.iaload C X463 A_463 (by decide) rfl d3_153 ?_
            show Go p e below s n0 _ _ _ (T463.setTop (mkF m 154 #[rv ad, iv xk.toInt32, iv 4, rv fr, rv tv, rv b301, iv 3, rv (rs xk)] [(.int t1), (.int t1)]))
            refine Go.icmp_ne C X463 (pc' := 195) d3_154 (by decide) (by decide) (fun hc => by first | exact absurd hc rfl | exact absurd rfl hc) (fun _ => ?_)
            show Go p e below s n0 _ _ _ (T463.setTop (mkF m 157 #[rv ad, iv xk.toInt32, iv 4, rv fr, rv tv, rv b301, iv 3, rv (rs xk)] []))
            refine Go.st (fun _ => XS.iload X463.here C.hx rfl (hb C.hby d3_157) rfl) ?_
            show Go p e below s n0 _ _ _ (T463.setTop (mkF m 159 #[rv ad, iv xk.toInt32, iv 4, rv fr, rv tv, rv b301, iv 3, rv (rs xk)] [(.int 3)]))
            refine Go.st (fun _ => XS.iconst X463.here C.hx rfl (hb C.hby d3_159)) ?_
            show Go p e below s n0 _ _ _ (T463.setTop (mkF m 160 #[rv ad, iv xk.toInt32, iv 4, rv fr, rv tv, rv b301, iv 3, rv (rs xk)] [(.int 3), (.int 3)]))
            refine Go.icmp_lt C X463 (pc' := 174) d3_160 (by decide) (by decide) (fun hc => absurd hc (by decide)) (fun _ => ?_)
            show Go p e below s n0 _ _ _ (T463.setTop (mkF m 163 #[rv ad, iv xk.toInt32, iv 4, rv fr, rv tv, rv b301, iv 3, rv (rs xk)] []))
            refine Go.st (fun _ => XS.aload X463.here C.hx rfl (hb C.hby d3_163) rfl rfl) ?_
            show Go p e below s n0 _ _ _ (T463.setTop (mkF m 165 #[rv ad, iv xk.toInt32, iv 4, rv fr, rv tv, rv b301, iv 3, rv (rs xk)] [(.ref (rs xk))]))
            refine Go.st (fun _ => XS.iconst X463.here C.hx rfl (hb C.hby d3_165)) ?_
            show Go p e below s n0 _ _ _ (T463.setTop (mkF m 166 #[rv ad, iv xk.toInt32, iv 4, rv fr, rv tv, rv b301, iv 3, rv (rs xk)] [(.int 2), (.ref (rs xk))]))
            refine Go.iaload C X463 AXX (by decide) rfl d3_166 ?_
            show Go p e below s n0 _ _ _ (T463.setTop (mkF m 167 #[rv ad, iv xk.toInt32, iv 4, rv fr, rv tv, rv b301, iv 3, rv (rs xk)] [(.int t2)]))
            refine Go.st (fun _ => XS.aload X463.here C.hx rfl (hb C.hby d3_167) rfl rfl) ?_
            show Go p e below s n0 _ _ _ (T463.setTop (mkF m 169 #[rv ad, iv xk.toInt32, iv 4, rv fr, rv tv, rv b301, iv 3, rv (rs xk)] [(.ref b301), (.int t2)]))
            refine Go.st (fun _ => XS.iconst X463.here C.hx rfl (hb C.hby d3_169)) ?_
            show Go p e below s n0 _ _ _ (T463.setTop (mkF m 170 #[rv ad, iv xk.toInt32, iv 4, rv fr, rv tv, rv b301, iv 3, rv (rs xk)] [(.int 2), (.ref b301), (.int t2)]))
            refine Go.iaload C X463 A_463 (by decide) rfl d3_170 ?_
            show Go p e below s n0 _ _ _ (T463.setTop (mkF m 171 #[rv ad, iv xk.toInt32, iv 4, rv fr, rv tv, rv b301, iv 3, rv (rs xk)] [(.int t2), (.int t2)]))
            refine Go.icmp_ne C X463 (pc' := 195) d3_171 (by decide) (by decide) (fun hc => by first | exact absurd hc rfl | exact absurd rfl hc) (fun _ => ?_)
            show Go p e below s n0 _ _ _ (T463.setTop (mkF m 174 #[rv ad, iv xk.toInt32, iv 4, rv fr, rv tv, rv b301, iv 3, rv (rs xk)] []))
            refine Go.st (fun _ => XS.iload X463.here C.hx rfl (hb C.hby d3_174) rfl) ?_
            show Go p e below s n0 _ _ _ (T463.setTop (mkF m 176 #[rv ad, iv xk.toInt32, iv 4, rv fr, rv tv, rv b301, iv 3, rv (rs xk)] [(.int 3)]))
            refine Go.st (fun _ => XS.iconst X463.here C.hx rfl (hb C.hby d3_176)) ?_
            show Go p e below s n0 _ _ _ (T463.setTop (mkF m 177 #[rv ad, iv xk.toInt32, iv 4, rv fr, rv tv, rv b301, iv 3, rv (rs xk)] [(.int 4), (.int 3)]))
            refine Go.icmp_lt C X463 (pc' := 191) d3_177 (by decide) (by decide) (fun _ => ?_) (fun hc => absurd hc (by decide))
            show Go p e below s n0 _ _ _ (T463.setTop (mkF m 191 #[rv ad, iv xk.toInt32, iv 4, rv fr, rv tv, rv b301, iv 3, rv (rs xk)] []))
            refine Go.st (fun _ => XS.iconst X463.here C.hx rfl (hb C.hby d3_191)) ?_
            show Go p e below s n0 _ _ _ (T463.setTop (mkF m 192 #[rv ad, iv xk.toInt32, iv 4, rv fr, rv tv, rv b301, iv 3, rv (rs xk)] [(.int 1)]))
            refine Go.st (fun _ => XS.goto X463.here C.hx rfl (pc0 := 192) (pc' := 196) rfl (hb C.hby d3_192) (by decide) (by decide)) ?_
            show Go p e below s n0 _ _ _ (T463.setTop (mkF m 196 #[rv ad, iv xk.toInt32, iv 4, rv fr, rv tv, rv b301, iv 3, rv (rs xk)] [(.int 1)]))
            exact Go.retZ C X463 (by decide) d3_196 ⟨rfl, K463⟩ (by decide) (by decide)
          · show Go p e below s n0 _ _ _ (T463.setTop (mkF m 91 #[rv ad, iv xk.toInt32, iv 4, rv fr, rv tv, rv b301, iv 3, .unset] []))
            refine Go.st (fun _ => XS.aload X463.here C.hx rfl (hb C.hby d3_91) rfl rfl) ?_
            show Go p e below s n0 _ _ _ (T463.setTop (mkF m 93 #[rv ad, iv xk.toInt32, iv 4, rv fr, rv tv, rv b301, iv 3, .unset] [(.ref b301)]))
            refine Go.st (fun _ => XS.iload X463.here C.hx rfl (hb C.hby d3_93) rfl) ?_
            show Go p e below s n0 _ _ _ (T463.setTop (mkF m 95 #[rv ad, iv xk.toInt32, iv 4, rv fr, rv tv, rv b301, iv 3, .unset] [(.int 3), (.ref b301)]))
            refine Go.st (fun _ => XS.aload X463.here C.hx rfl (hb C.hby d3_95) rfl rfl) ?_
            show Go p e below s n0 _ _ _ (T463.setTop (mkF m 97 #[rv ad, iv xk.toInt32, iv 4, rv fr, rv tv, rv b301, iv 3, .unset] [(.ref tv), (.int 3), (.ref b301)]))
            refine Go.st (fun _ => XS.iconst X463.here C.hx rfl (hb C.hby d3_97)) ?_
            show Go p e below s n0 _ _ _ (T463.setTop (mkF m 98 #[rv ad, iv xk.toInt32, iv 4, rv fr, rv tv, rv b301, iv 3, .unset] [(.int 3), (.ref tv), (.int 3), (.ref b301)]))
            refine Go.iaload C X463 (AT__441.other W463 ne_tv_b301) (by decide) rfl d3_98 ?_
            show Go p e below s n0 _ _ _ (T463.setTop (mkF m 99 #[rv ad, iv xk.toInt32, iv 4, rv fr, rv tv, rv b301, iv 3, .unset] [(.int t3), (.int 3), (.ref b301)]))
            refine Go.iastore C X463 A_463 (by decide) (Nat.le_of_ble_eq_true rfl) ge301 d3_99 (fun T475 h475 X475 W475 A475 => ?_)
            have A_475 : AR Z h475 b301 .int [(.int t0), (.int t1), (.int t2), (.int t3)] := A475
            have O_476 : AO Z h475 ad (ouV cc cc rs) := ((O_439.other W463 ne_ad_b301).other W475 ne_ad_b301)
            have AF__477 : AR Z h475 fr .int [(.int g0.toInt32), (.int g1.toInt32), (.int g2.toInt32), (.int g3.toInt32)] := ((AF__440.other W463 ne_fr_b301).other W475 ne_fr_b301)
            have AT__478 : AR Z h475 tv .int [(.int t0), (.int t1), (.int t2), (.int t3)] := ((AT__441.other W463 ne_tv_b301).other W475 ne_tv_b301)
            have K475 : Keep h0 h475 [] := K463.wr W475 (Or.inr old_b301)
            show Go p e below s n0 _ _ _ (T475.setTop (mkF m 100 #[rv ad, iv xk.toInt32, iv 4, rv fr, rv tv, rv b301, iv 3, .unset] []))
            refine Go.st (fun _ => XS.iinc X475.here C.hx rfl (hb C.hby d3_100) rfl (l' := #[rv ad, iv xk.toInt32, iv 4, rv fr, rv tv, rv b301, iv 4, .unset]) rfl) ?_
            have p0 := eq_true ((eqI (by omega) (by omega)).mp hc16_303).symm
            have p1 := eq_true ((eqI (by omega) (by omega)).mp hc40_393).symm
            have p2 := eq_true ((eqI (by omega) (by omega)).mp hc64_443).symm
            have p3 := eq_true ((eqI (by omega) (by omega)).mp hc88_466).symm
            have RL : rowP (fsF g0 g1 g2 g3) (tsF t0 t1 t2 t3) 4 4 xk = [t0, t1, t2, t3] := by
              simp only [rowP, cnt, fsF0, tsF0, fsF1, tsF1, fsF2, tsF2, fsF3, tsF3, p0, p1, p2, p3, if_true, if_false]
              try rfl
            have AXX : AR Z h475 (rs xk) .int [(.int t0), (.int t1), (.int t2), (.int t3)] := by have u := (AX_464.other W475 ne__rs_xk__b301); rw [RL] at u; exact u
            show Go p e below s n0 _ _ _ (T475.setTop (mkF m 103 #[rv ad, iv xk.toInt32, iv 4, rv fr, rv tv, rv b301, iv 4, .unset] []))
            refine Go.st (fun _ => XS.aloadN X475.here C.hx rfl (hb C.hby d3_103) rfl rfl) ?_
            show Go p e below s n0 _ _ _ (T475.setTop (mkF m 104 #[rv ad, iv xk.toInt32, iv 4, rv fr, rv tv, rv b301, iv 4, .unset] [(.ref ad)]))
            refine Go.st (fun _ => XS.iloadN X475.here C.hx rfl (hb C.hby d3_104) rfl) ?_
            show Go p e below s n0 _ _ _ (T475.setTop (mkF m 105 #[rv ad, iv xk.toInt32, iv 4, rv fr, rv tv, rv b301, iv 4, .unset] [(.int xk.toInt32), (.ref ad)]))
            refine Go.aaload C X475 (O_476).ar rfl (nn32 (by omega)) (ou_get hc hx) d3_105 ?_
            show Go p e below s n0 _ _ _ (T475.setTop (mkF m 106 #[rv ad, iv xk.toInt32, iv 4, rv fr, rv tv, rv b301, iv 4, .unset] [(.ref (rs xk))]))
            refine Go.st (fun _ => XS.astore X475.here C.hx rfl (hb C.hby d3_106) rfl rfl (l' := #[rv ad, iv xk.toInt32, iv 4, rv fr, rv tv, rv b301, iv 4, rv (rs xk)]) rfl) ?_
            show Go p e below s n0 _ _ _ (T475.setTop (mkF m 108 #[rv ad, iv xk.toInt32, iv 4, rv fr, rv tv, rv b301, iv 4, rv (rs xk)] []))
            refine Go.st (fun _ => XS.aload X475.here C.hx rfl (hb C.hby d3_108) rfl rfl) ?_
            show Go p e below s n0 _ _ _ (T475.setTop (mkF m 110 #[rv ad, iv xk.toInt32, iv 4, rv fr, rv tv, rv b301, iv 4, rv (rs xk)] [(.ref (rs xk))]))
            refine Go.st (fun _ => XS.ifnullNo X475.here C.hx rfl (hb C.hby d3_110) rfl) ?_
            show Go p e below s n0 _ _ _ (T475.setTop (mkF m 113 #[rv ad, iv xk.toInt32, iv 4, rv fr, rv tv, rv b301, iv 4, rv (rs xk)] []))
            refine Go.st (fun _ => XS.aload X475.here C.hx rfl (hb C.hby d3_113) rfl rfl) ?_
            show Go p e below s n0 _ _ _ (T475.setTop (mkF m 115 #[rv ad, iv xk.toInt32, iv 4, rv fr, rv tv, rv b301, iv 4, rv (rs xk)] [(.ref (rs xk))]))
            refine Go.alen C X475 AXX (z := (4 : Int32)) rfl d3_115 ?_
            show Go p e below s n0 _ _ _ (T475.setTop (mkF m 116 #[rv ad, iv xk.toInt32, iv 4, rv fr, rv tv, rv b301, iv 4, rv (rs xk)] [(.int 4)]))
            refine Go.st (fun _ => XS.iload X475.here C.hx rfl (hb C.hby d3_116) rfl) ?_
            show Go p e below s n0 _ _ _ (T475.setTop (mkF m 118 #[rv ad, iv xk.toInt32, iv 4, rv fr, rv tv, rv b301, iv 4, rv (rs xk)] [(.int 4), (.int 4)]))
            refine Go.icmp_eq C X475 (pc' := 123) d3_118 (by decide) (by decide) (fun _ => ?_) (fun hc => absurd hc (by decide))
            show Go p e below s n0 _ _ _ (T475.setTop (mkF m 123 #[rv ad, iv xk.toInt32, iv 4, rv fr, rv tv, rv b301, iv 4, rv (rs xk)] []))
            refine Go.st (fun _ => XS.iload X475.here C.hx rfl (hb C.hby d3_123) rfl) ?_
            show Go p e below s n0 _ _ _ (T475.setTop (mkF m 125 #[rv ad, iv xk.toInt32, iv 4, rv fr, rv tv, rv b301, iv 4, rv (rs xk)] [(.int 4)]))
            refine Go.st (fun _ => XS.iconst X475.here C.hx rfl (hb C.hby d3_125)) ?_
            show Go p e below s n0 _ _ _ (T475.setTop (mkF m 126 #[rv ad, iv xk.toInt32, iv 4, rv fr, rv tv, rv b301, iv 4, rv (rs xk)] [(.int 1), (.int 4)]))
            refine Go.icmp_lt C X475 (pc' := 140) d3_126 (by decide) (by decide) (fun hc => absurd hc (by decide)) (fun _ => ?_)
            show Go p e below s n0 _ _ _ (T475.setTop (mkF m 129 #[rv ad, iv xk.toInt32, iv 4, rv fr, rv tv, rv b301, iv 4, rv (rs xk)] []))
            refine Go.st (fun _ => XS.aload X475.here C.hx rfl (hb C.hby d3_129) rfl rfl) ?_
            show Go p e below s n0 _ _ _ (T475.setTop (mkF m 131 #[rv ad, iv xk.toInt32, iv 4, rv fr, rv tv, rv b301, iv 4, rv (rs xk)] [(.ref (rs xk))]))
            refine Go.st (fun _ => XS.iconst X475.here C.hx rfl (hb C.hby d3_131)) ?_
            show Go p e below s n0 _ _ _ (T475.setTop (mkF m 132 #[rv ad, iv xk.toInt32, iv 4, rv fr, rv tv, rv b301, iv 4, rv (rs xk)] [(.int 0), (.ref (rs xk))]))
            refine Go.iaload C X475 AXX (by decide) rfl d3_132 ?_
            show Go p e below s n0 _ _ _ (T475.setTop (mkF m 133 #[rv ad, iv xk.toInt32, iv 4, rv fr, rv tv, rv b301, iv 4, rv (rs xk)] [(.int t0)]))
            refine Go.st (fun _ => XS.aload X475.here C.hx rfl (hb C.hby d3_133) rfl rfl) ?_
            show Go p e below s n0 _ _ _ (T475.setTop (mkF m 135 #[rv ad, iv xk.toInt32, iv 4, rv fr, rv tv, rv b301, iv 4, rv (rs xk)] [(.ref b301), (.int t0)]))
            refine Go.st (fun _ => XS.iconst X475.here C.hx rfl (hb C.hby d3_135)) ?_
            show Go p e below s n0 _ _ _ (T475.setTop (mkF m 136 #[rv ad, iv xk.toInt32, iv 4, rv fr, rv tv, rv b301, iv 4, rv (rs xk)] [(.int 0), (.ref b301), (.int t0)]))
            refine Go.iaload C X475 A_475 (by decide) rfl d3_136 ?_
            show Go p e below s n0 _ _ _ (T475.setTop (mkF m 137 #[rv ad, iv xk.toInt32, iv 4, rv fr, rv tv, rv b301, iv 4, rv (rs xk)] [(.int t0), (.int t0)]))
            refine Go.icmp_ne C X475 (pc' := 195) d3_137 (by decide) (by decide) (fun hc => by first | exact absurd hc rfl | exact absurd rfl hc) (fun _ => ?_)
            show Go p e below s n0 _ _ _ (T475.setTop (mkF m 140 #[rv ad, iv xk.toInt32, iv 4, rv fr, rv tv, rv b301, iv 4, rv (rs xk)] []))
            refine Go.st (fun _ => XS.iload X475.here C.hx rfl (hb C.hby d3_140) rfl) ?_
            show Go p e below s n0 _ _ _ (T475.setTop (mkF m 142 #[rv ad, iv xk.toInt32, iv 4, rv fr, rv tv, rv b301, iv 4, rv (rs xk)] [(.int 4)]))
            refine Go.st (fun _ => XS.iconst X475.here C.hx rfl (hb C.hby d3_142)) ?_
            show Go p e below s n0 _ _ _ (T475.setTop (mkF m 143 #[rv ad, iv xk.toInt32, iv 4, rv fr, rv tv, rv b301, iv 4, rv (rs xk)] [(.int 2), (.int 4)]))
            refine Go.icmp_lt C X475 (pc' := 157) d3_143 (by decide) (by decide) (fun hc => absurd hc (by decide)) (fun _ => ?_)
            show Go p e below s n0 _ _ _ (T475.setTop (mkF m 146 #[rv ad, iv xk.toInt32, iv 4, rv fr, rv tv, rv b301, iv 4, rv (rs xk)] []))
            refine Go.st (fun _ => XS.aload X475.here C.hx rfl (hb C.hby d3_146) rfl rfl) ?_
            show Go p e below s n0 _ _ _ (T475.setTop (mkF m 148 #[rv ad, iv xk.toInt32, iv 4, rv fr, rv tv, rv b301, iv 4, rv (rs xk)] [(.ref (rs xk))]))
            refine Go.st (fun _ => XS.iconst X475.here C.hx rfl (hb C.hby d3_148)) ?_
            show Go p e below s n0 _ _ _ (T475.setTop (mkF m 149 #[rv ad, iv xk.toInt32, iv 4, rv fr, rv tv, rv b301, iv 4, rv (rs xk)] [(.int 1), (.ref (rs xk))]))
            refine Go.iaload C X475 AXX (by decide) rfl d3_149 ?_
            show Go p e below s n0 _ _ _ (T475.setTop (mkF m 150 #[rv ad, iv xk.toInt32, iv 4, rv fr, rv tv, rv b301, iv 4, rv (rs xk)] [(.int t1)]))
            refine Go.st (fun _ => XS.aload X475.here C.hx rfl (hb C.hby d3_150) rfl rfl) ?_
            show Go p e below s n0 _ _ _ (T475.setTop (mkF m 152 #[rv ad, iv xk.toInt32, iv 4, rv fr, rv tv, rv b301, iv 4, rv (rs xk)] [(.ref b301), (.int t1)]))
            refine Go.st (fun _ => XS.iconst X475.here C.hx rfl (hb C.hby d3_152)) ?_
            show Go p e below s n0 _ _ _ (T475.setTop (mkF m 153 #[rv ad, iv xk.toInt32, iv 4, rv fr, rv tv, rv b301, iv 4, rv (rs xk)] [(.int 1), (.ref b301), (.int t1)]))
            refine Go.iaload C X475 A_475 (by decide) rfl d3_153 ?_
            show Go p e below s n0 _ _ _ (T475.setTop (mkF m 154 #[rv ad, iv xk.toInt32, iv 4, rv fr, rv tv, rv b301, iv 4, rv (rs xk)] [(.int t1), (.int t1)]))
            refine Go.icmp_ne C X475 (pc' := 195) d3_154 (by decide) (by decide) (fun hc => by first | exact absurd hc rfl | exact absurd rfl hc) (fun _ => ?_)
            show Go p e below s n0 _ _ _ (T475.setTop (mkF m 157 #[rv ad, iv xk.toInt32, iv 4, rv fr, rv tv, rv b301, iv 4, rv (rs xk)] []))
            refine Go.st (fun _ => XS.iload X475.here C.hx rfl (hb C.hby d3_157) rfl) ?_
            show Go p e below s n0 _ _ _ (T475.setTop (mkF m 159 #[rv ad, iv xk.toInt32, iv 4, rv fr, rv tv, rv b301, iv 4, rv (rs xk)] [(.int 4)]))
            refine Go.st (fun _ => XS.iconst X475.here C.hx rfl (hb C.hby d3_159)) ?_
            show Go p e below s n0 _ _ _ (T475.setTop (mkF m 160 #[rv ad, iv xk.toInt32, iv 4, rv fr, rv tv, rv b301, iv 4, rv (rs xk)] [(.int 3), (.int 4)]))
            refine Go.icmp_lt C X475 (pc' := 174) d3_160 (by decide) (by decide) (fun hc => absurd hc (by decide)) (fun _ => ?_)
            show Go p e below s n0 _ _ _ (T475.setTop (mkF m 163 #[rv ad, iv xk.toInt32, iv 4, rv fr, rv tv, rv b301, iv 4, rv (rs xk)] []))
            refine Go.st (fun _ => XS.aload X475.here C.hx rfl (hb C.hby d3_163) rfl rfl) ?_
            show Go p e below s n0 _ _ _ (T475.setTop (mkF m 165 #[rv ad, iv xk.toInt32, iv 4, rv fr, rv tv, rv b301, iv 4, rv (rs xk)] [(.ref (rs xk))]))
            refine Go.st (fun _ => XS.iconst X475.here C.hx rfl (hb C.hby d3_165)) ?_
            show Go p e below s n0 _ _ _ (T475.setTop (mkF m 166 #[rv ad, iv xk.toInt32, iv 4, rv fr, rv tv, rv b301, iv 4, rv (rs xk)] [(.int 2), (.ref (rs xk))]))
            refine Go.iaload C X475 AXX (by decide) rfl d3_166 ?_
            show Go p e below s n0 _ _ _ (T475.setTop (mkF m 167 #[rv ad, iv xk.toInt32, iv 4, rv fr, rv tv, rv b301, iv 4, rv (rs xk)] [(.int t2)]))
            refine Go.st (fun _ => XS.aload X475.here C.hx rfl (hb C.hby d3_167) rfl rfl) ?_
            show Go p e below s n0 _ _ _ (T475.setTop (mkF m 169 #[rv ad, iv xk.toInt32, iv 4, rv fr, rv tv, rv b301, iv 4, rv (rs xk)] [(.ref b301), (.int t2)]))
            refine Go.st (fun _ => XS.iconst X475.here C.hx rfl (hb C.hby d3_169)) ?_
            show Go p e below s n0 _ _ _ (T475.setTop (mkF m 170 #[rv ad, iv xk.toInt32, iv 4, rv fr, rv tv, rv b301, iv 4, rv (rs xk)] [(.int 2), (.ref b301), (.int t2)]))
            refine Go.iaload C X475 A_475 (by decide) rfl d3_170 ?_
            show Go p e below s n0 _ _ _ (T475.setTop (mkF m 171 #[rv ad, iv xk.toInt32, iv 4, rv fr, rv tv, rv b301, iv 4, rv (rs xk)] [(.int t2), (.int t2)]))
            refine Go.icmp_ne C X475 (pc' := 195) d3_171 (by decide) (by decide) (fun hc => by first | exact absurd hc rfl | exact absurd rfl hc) (fun _ => ?_)
            show Go p e below s n0 _ _ _ (T475.setTop (mkF m 174 #[rv ad, iv xk.toInt32, iv 4, rv fr, rv tv, rv b301, iv 4, rv (rs xk)] []))
            refine Go.st (fun _ => XS.iload X475.here C.hx rfl (hb C.hby d3_174) rfl) ?_
            show Go p e below s n0 _ _ _ (T475.setTop (mkF m 176 #[rv ad, iv xk.toInt32, iv 4, rv fr, rv tv, rv b301, iv 4, rv (rs xk)] [(.int 4)]))
            refine Go.st (fun _ => XS.iconst X475.here C.hx rfl (hb C.hby d3_176)) ?_
            show Go p e below s n0 _ _ _ (T475.setTop (mkF m 177 #[rv ad, iv xk.toInt32, iv 4, rv fr, rv tv, rv b301, iv 4, rv (rs xk)] [(.int 4), (.int 4)]))
            refine Go.icmp_lt C X475 (pc' := 191) d3_177 (by decide) (by decide) (fun hc => absurd hc (by decide)) (fun _ => ?_)
            show Go p e below s n0 _ _ _ (T475.setTop (mkF m 180 #[rv ad, iv xk.toInt32, iv 4, rv fr, rv tv, rv b301, iv 4, rv (rs xk)] []))
            refine Go.st (fun _ => XS.aload X475.here C.hx rfl (hb C.hby d3_180) rfl rfl) ?_
            show Go p e below s n0 _ _ _ (T475.setTop (mkF m 182 #[rv ad, iv xk.toInt32, iv 4, rv fr, rv tv, rv b301, iv 4, rv (rs xk)] [(.ref (rs xk))]))
            refine Go.st (fun _ => XS.iconst X475.here C.hx rfl (hb C.hby d3_182)) ?_
            show Go p e below s n0 _ _ _ (T475.setTop (mkF m 183 #[rv ad, iv xk.toInt32, iv 4, rv fr, rv tv, rv b301, iv 4, rv (rs xk)] [(.int 3), (.ref (rs xk))]))
            refine Go.iaload C X475 AXX (by decide) rfl d3_183 ?_
            show Go p e below s n0 _ _ _ (T475.setTop (mkF m 184 #[rv ad, iv xk.toInt32, iv 4, rv fr, rv tv, rv b301, iv 4, rv (rs xk)] [(.int t3)]))
            refine Go.st (fun _ => XS.aload X475.here C.hx rfl (hb C.hby d3_184) rfl rfl) ?_
            show Go p e below s n0 _ _ _ (T475.setTop (mkF m 186 #[rv ad, iv xk.toInt32, iv 4, rv fr, rv tv, rv b301, iv 4, rv (rs xk)] [(.ref b301), (.int t3)]))
            refine Go.st (fun _ => XS.iconst X475.here C.hx rfl (hb C.hby d3_186)) ?_
            show Go p e below s n0 _ _ _ (T475.setTop (mkF m 187 #[rv ad, iv xk.toInt32, iv 4, rv fr, rv tv, rv b301, iv 4, rv (rs xk)] [(.int 3), (.ref b301), (.int t3)]))
            refine Go.iaload C X475 A_475 (by decide) rfl d3_187 ?_
            show Go p e below s n0 _ _ _ (T475.setTop (mkF m 188 #[rv ad, iv xk.toInt32, iv 4, rv fr, rv tv, rv b301, iv 4, rv (rs xk)] [(.int t3), (.int t3)]))
            refine Go.icmp_ne C X475 (pc' := 195) d3_188 (by decide) (by decide) (fun hc => by first | exact absurd hc rfl | exact absurd rfl hc) (fun _ => ?_)
            show Go p e below s n0 _ _ _ (T475.setTop (mkF m 191 #[rv ad, iv xk.toInt32, iv 4, rv fr, rv tv, rv b301, iv 4, rv (rs xk)] []))
            refine Go.st (fun _ => XS.iconst X475.here C.hx rfl (hb C.hby d3_191)) ?_
            show Go p e below s n0 _ _ _ (T475.setTop (mkF m 192 #[rv ad, iv xk.toInt32, iv 4, rv fr, rv tv, rv b301, iv 4, rv (rs xk)] [(.int 1)]))
            refine Go.st (fun _ => XS.goto X475.here C.hx rfl (pc0 := 192) (pc' := 196) rfl (hb C.hby d3_192) (by decide) (by decide)) ?_
            show Go p e below s n0 _ _ _ (T475.setTop (mkF m 196 #[rv ad, iv xk.toInt32, iv 4, rv fr, rv tv, rv b301, iv 4, rv (rs xk)] [(.int 1)]))
            exact Go.retZ C X475 (by decide) d3_196 ⟨rfl, K475⟩ (by decide) (by decide)
theorem pf_0 : plainFor x = true := plainFor_of_name (by first | (simp [plainName, overriddenIn]; done) | decide +kernel)
theorem pd_0 : parseMethodDescriptor "(IIIIII)Z" = some ⟨[.int, .int, .int, .int, .int, .int], some .boolean⟩ := by decide +kernel
theorem r5 {x z : Int32} (h : ((x &&& (7 : Int32)) % (5 : Int32)) = z) : ∃ k : Nat, k ≤ 4 ∧ z = k.toInt32 := by
  have h1 := (c_and x 7 (by decide)).1
  have q := (c_irem (x &&& (7 : Int32)) 5 5 rfl).1 h1
  rw [h] at q
  have k0 : (0 : Int32).toInt = 0 := rfl
  have hz : ¬ z < 0 := by rw [Int32.lt_iff_toInt_lt, k0]; omega
  refine ⟨z.toNatClampNeg, ?_, ((back32 hz).1).symm⟩
  simp only [Int32.toNatClampNeg]; omega
theorem mx1 {cc : Nat} (h : cc ≤ 4) : ∃ c1 : Nat, 0 < c1 ∧ c1 ≤ 4 ∧ (cc ≠ 0 → c1 = cc) ∧ mxF cc.toInt32 1 = c1.toInt32 := by
  have : ∀ cc : Fin 5, mxF cc.1.toInt32 1 = (if cc.1 = 0 then 1 else cc.1).toInt32 := by decide +kernel
  refine ⟨if cc = 0 then 1 else cc, ?_, ?_, fun q => if_neg q, this ⟨cc, by omega⟩⟩
  · split <;> omega
  · split <;> omega
theorem modC (x : Int32) {c1 : Nat} (h0 : 0 < c1) (h4 : c1 ≤ 4) : ∃ g : Nat, g < c1 ∧ ((x &&& (255 : Int32)) % c1.toInt32) = g.toInt32 := by
  have h1 := (c_and x 255 (by decide)).1
  have hl := len_toInt (n := c1) (by omega)
  have h2 := (c_iremV (x &&& (255 : Int32)) c1.toInt32).1 h1 (by rw [hl]; omega)
  rw [hl] at h2
  have k0 : (0 : Int32).toInt = 0 := rfl
  have hz : ¬ ((x &&& (255 : Int32)) % c1.toInt32) < 0 := by rw [Int32.lt_iff_toInt_lt, k0]; omega
  refine ⟨((x &&& (255 : Int32)) % c1.toInt32).toNatClampNeg, ?_, ((back32 hz).1).symm⟩
  simp only [Int32.toNatClampNeg]; omega
theorem ne0 {c1 : Nat} (h0 : 0 < c1) (h4 : c1 ≤ 4) : c1.toInt32 ≠ 0 := fun q => by
  have := (eqI (j := 0) (by omega) (by decide)).mp q
  omega
theorem ltUp {cc a b : Nat} (hc : cc ≤ 4) (ha : a < 10) (hb : b < 10) (hab : a ≤ b) (h : cc.toInt32 < a.toInt32) : cc.toInt32 < b.toInt32 := by
  rw [ltI (by omega) (by omega)] at h ⊢
  omega
theorem ltNo {cc a : Nat} (hc : cc ≤ 4) (ha : a < 10) (h : ¬ cc.toInt32 < a.toInt32) : a ≤ cc := by
  rw [ltI (by omega) (by omega)] at h
  omega
set_option maxRecDepth 65536 in
set_option maxHeartbeats 40000000 in
theorem con_law (l : Launch) (Z : State) (a0 : Array Value) (hw : ∀ d ∈ tables_1, d.before a0 Z = true) (n0 : Nat) (h0 : Heap) (Z0 : n0 ≤ h0.size) (pp ff t0 t1 t2 t3 : Int32)  :
    Con l Z x code maxLocals ret tables_1 room_1 n0 #[(.int pp), (.int ff), (.int t0), (.int t1), (.int t2), (.int t3)] h0 (fun v h => v = some (.int 1)) := by
  refine Con.mk pf_0 hw Z0 ?_
  intro p e s m below meth c T0 C X0
  have ef : entryFrame m #[(.int pp), (.int ff), (.int t0), (.int t1), (.int t2), (.int t3)] maxLocals = mkF m 0 #[iv pp, iv ff, iv t0, iv t1, iv t2, iv t3, .unset, .unset, .unset, .unset, .unset, .unset, .unset, .unset] [] := by first | (simp [entryFrame, mkF, argsToLocals, Value.category, maxLocals]; done) | rfl
  rw [ef]
  show Go p e below s n0 _ _ _ (T0.setTop (mkF m 0 #[iv pp, iv ff, iv t0, iv t1, iv t2, iv t3, .unset, .unset, .unset, .unset, .unset, .unset, .unset, .unset] []))
  refine Go.st (fun _ => XS.iloadN X0.here C.hx rfl (hb C.hby at_0) rfl) ?_
  show Go p e below s n0 _ _ _ (T0.setTop (mkF m 1 #[iv pp, iv ff, iv t0, iv t1, iv t2, iv t3, .unset, .unset, .unset, .unset, .unset, .unset, .unset, .unset] [(.int pp)]))
  refine Go.st (fun _ => XS.bipush X0.here C.hx rfl (hb C.hby at_1)) ?_
  show Go p e below s n0 _ _ _ (T0.setTop (mkF m 3 #[iv pp, iv ff, iv t0, iv t1, iv t2, iv t3, .unset, .unset, .unset, .unset, .unset, .unset, .unset, .unset] [(.int 7), (.int pp)]))
  refine Go.st (fun _ => XS.iand X0.here C.hx rfl (hb C.hby at_3) rfl) ?_
  show Go p e below s n0 _ _ _ (T0.setTop (mkF m 4 #[iv pp, iv ff, iv t0, iv t1, iv t2, iv t3, .unset, .unset, .unset, .unset, .unset, .unset, .unset, .unset] [(.int (pp &&& (7 : Int32)))]))
  refine Go.st (fun _ => XS.iconst X0.here C.hx rfl (hb C.hby at_4)) ?_
  show Go p e below s n0 _ _ _ (T0.setTop (mkF m 5 #[iv pp, iv ff, iv t0, iv t1, iv t2, iv t3, .unset, .unset, .unset, .unset, .unset, .unset, .unset, .unset] [(.int 5), (.int (pp &&& (7 : Int32)))]))
  refine Go.irem C X0 (by decide) at_5 ?_
  show Go p e below s n0 _ _ _ (T0.setTop (mkF m 6 #[iv pp, iv ff, iv t0, iv t1, iv t2, iv t3, .unset, .unset, .unset, .unset, .unset, .unset, .unset, .unset] [(.int ((pp &&& (7 : Int32)) % (5 : Int32)))]))
  generalize hg_cz : ((pp &&& (7 : Int32)) % (5 : Int32)) = cz
  refine Go.st (fun _ => XS.istore X0.here C.hx rfl (hb C.hby at_6) rfl (l' := #[iv pp, iv ff, iv t0, iv t1, iv t2, iv t3, iv cz, .unset, .unset, .unset, .unset, .unset, .unset, .unset]) rfl) ?_
  obtain ⟨cc, hcc, rfl⟩ := r5 hg_cz
  show Go p e below s n0 _ _ _ (T0.setTop (mkF m 8 #[iv pp, iv ff, iv t0, iv t1, iv t2, iv t3, iv cc.toInt32, .unset, .unset, .unset, .unset, .unset, .unset, .unset] []))
  refine Go.st (fun _ => XS.iload X0.here C.hx rfl (hb C.hby at_8) rfl) ?_
  show Go p e below s n0 _ _ _ (T0.setTop (mkF m 10 #[iv pp, iv ff, iv t0, iv t1, iv t2, iv t3, iv cc.toInt32, .unset, .unset, .unset, .unset, .unset, .unset, .unset] [(.int cc.toInt32)]))
  have J489 : ∀ (TJ489 : State) (nz : Int32), St p l e room_1 s m #[(.int pp), (.int ff), (.int t0), (.int t1), (.int t2), (.int t3)] below meth c n0 TJ489 h0 0 0 → (∃ n : Nat, n ≤ 4 ∧ nz = n.toInt32 ∧ (cc = 0 → n = 0)) → Go p e below s n0 (room_1).cells (room_1).slots (fun v h => v = some (.int 1)) (TJ489.setTop (mkF m 25 #[iv pp, iv ff, iv t0, iv t1, iv t2, iv t3, iv cc.toInt32, .unset, .unset, .unset, .unset, .unset, .unset, .unset] [(.int nz)])) := by
    intro TJ489 nz XJ489 hj_nz
    show Go p e below s n0 _ _ _ (TJ489.setTop (mkF m 25 #[iv pp, iv ff, iv t0, iv t1, iv t2, iv t3, iv cc.toInt32, .unset, .unset, .unset, .unset, .unset, .unset, .unset] [(.int nz)]))
    refine Go.st (fun _ => XS.istore XJ489.here C.hx rfl (hb C.hby at_25) rfl (l' := #[iv pp, iv ff, iv t0, iv t1, iv t2, iv t3, iv cc.toInt32, iv nz, .unset, .unset, .unset, .unset, .unset, .unset]) rfl) ?_
    obtain ⟨n, hn, rfl, hcn⟩ := hj_nz
    show Go p e below s n0 _ _ _ (TJ489.setTop (mkF m 27 #[iv pp, iv ff, iv t0, iv t1, iv t2, iv t3, iv cc.toInt32, iv n.toInt32, .unset, .unset, .unset, .unset, .unset, .unset] []))
    refine Go.st (fun _ => XS.iload XJ489.here C.hx rfl (hb C.hby at_27) rfl) ?_
    show Go p e below s n0 _ _ _ (TJ489.setTop (mkF m 29 #[iv pp, iv ff, iv t0, iv t1, iv t2, iv t3, iv cc.toInt32, iv n.toInt32, .unset, .unset, .unset, .unset, .unset, .unset] [(.int cc.toInt32)]))
    refine Go.st (fun _ => XS.iconst XJ489.here C.hx rfl (hb C.hby at_29)) ?_
    show Go p e below s n0 _ _ _ (TJ489.setTop (mkF m 30 #[iv pp, iv ff, iv t0, iv t1, iv t2, iv t3, iv cc.toInt32, iv n.toInt32, .unset, .unset, .unset, .unset, .unset, .unset] [(.int 1), (.int cc.toInt32)]))
    refine Go.callS C XJ489 (W := 0) (argsL := [(.int cc.toInt32), (.int 1)]) (rest := []) (wd 0 rfl) (wd 1 rfl) (wd 2 rfl) (wd 3 rfl) (by decide) (con_max l Z a0 hw n0 h0 XJ489.size cc.toInt32 (1 : Int32)) (by decide) (by decide) rfl (lenOf pd_1 rfl) (Nat.le_of_ble_eq_true rfl) rfl at_30 (by decide) (by decide) (fun T490 h490 v490 X490 hQ490 => ?_)
    obtain ⟨rfl, hh490⟩ := hQ490
    rw [hh490] at X490
    obtain ⟨c1, hc1, hc14, hc1e, ec1⟩ := mx1 hcc
    rw [ec1]
    show Go p e below s n0 _ _ _ (T490.setTop (mkF m 33 #[iv pp, iv ff, iv t0, iv t1, iv t2, iv t3, iv cc.toInt32, iv n.toInt32, .unset, .unset, .unset, .unset, .unset, .unset] [(.int c1.toInt32)]))
    refine Go.st (fun _ => XS.istore X490.here C.hx rfl (hb C.hby at_33) rfl (l' := #[iv pp, iv ff, iv t0, iv t1, iv t2, iv t3, iv cc.toInt32, iv n.toInt32, iv c1.toInt32, .unset, .unset, .unset, .unset, .unset]) rfl) ?_
    show Go p e below s n0 _ _ _ (T490.setTop (mkF m 35 #[iv pp, iv ff, iv t0, iv t1, iv t2, iv t3, iv cc.toInt32, iv n.toInt32, iv c1.toInt32, .unset, .unset, .unset, .unset, .unset] []))
    refine Go.st (fun _ => XS.iconst X490.here C.hx rfl (hb C.hby at_35)) ?_
    show Go p e below s n0 _ _ _ (T490.setTop (mkF m 36 #[iv pp, iv ff, iv t0, iv t1, iv t2, iv t3, iv cc.toInt32, iv n.toInt32, iv c1.toInt32, .unset, .unset, .unset, .unset, .unset] [(.int 4)]))
    refine Go.newP C X490 (aty := .int) (cap := 4) (wd 4 rfl) at_36 (by decide) (by decide) (by decide) (by decide) (by decide) (fun T491 h491 b491 g491 ge491 X491 E491 A491 => ?_)
    have A_b491 : AR Z h491 b491 .int [(.int 0), (.int 0), (.int 0), (.int 0)] := A491
    show Go p e below s n0 _ _ _ (T491.setTop (mkF m 38 #[iv pp, iv ff, iv t0, iv t1, iv t2, iv t3, iv cc.toInt32, iv n.toInt32, iv c1.toInt32, .unset, .unset, .unset, .unset, .unset] [(.ref b491)]))
    refine Go.st (fun _ => XS.astore X491.here C.hx rfl (hb C.hby at_38) rfl rfl (l' := #[iv pp, iv ff, iv t0, iv t1, iv t2, iv t3, iv cc.toInt32, iv n.toInt32, iv c1.toInt32, rv b491, .unset, .unset, .unset, .unset]) rfl) ?_
    show Go p e below s n0 _ _ _ (T491.setTop (mkF m 40 #[iv pp, iv ff, iv t0, iv t1, iv t2, iv t3, iv cc.toInt32, iv n.toInt32, iv c1.toInt32, rv b491, .unset, .unset, .unset, .unset] []))
    refine Go.st (fun _ => XS.aload X491.here C.hx rfl (hb C.hby at_40) rfl rfl) ?_
    show Go p e below s n0 _ _ _ (T491.setTop (mkF m 42 #[iv pp, iv ff, iv t0, iv t1, iv t2, iv t3, iv cc.toInt32, iv n.toInt32, iv c1.toInt32, rv b491, .unset, .unset, .unset, .unset] [(.ref b491)]))
    refine Go.st (fun _ => XS.iconst X491.here C.hx rfl (hb C.hby at_42)) ?_
    show Go p e below s n0 _ _ _ (T491.setTop (mkF m 43 #[iv pp, iv ff, iv t0, iv t1, iv t2, iv t3, iv cc.toInt32, iv n.toInt32, iv c1.toInt32, rv b491, .unset, .unset, .unset, .unset] [(.int 0), (.ref b491)]))
    refine Go.st (fun _ => XS.iloadN X491.here C.hx rfl (hb C.hby at_43) rfl) ?_
    show Go p e below s n0 _ _ _ (T491.setTop (mkF m 44 #[iv pp, iv ff, iv t0, iv t1, iv t2, iv t3, iv cc.toInt32, iv n.toInt32, iv c1.toInt32, rv b491, .unset, .unset, .unset, .unset] [(.int ff), (.int 0), (.ref b491)]))
    refine Go.st (fun _ => XS.sipush X491.here C.hx rfl (hb C.hby at_44)) ?_
    show Go p e below s n0 _ _ _ (T491.setTop (mkF m 47 #[iv pp, iv ff, iv t0, iv t1, iv t2, iv t3, iv cc.toInt32, iv n.toInt32, iv c1.toInt32, rv b491, .unset, .unset, .unset, .unset] [(.int 255), (.int ff), (.int 0), (.ref b491)]))
    refine Go.st (fun _ => XS.iand X491.here C.hx rfl (hb C.hby at_47) rfl) ?_
    show Go p e below s n0 _ _ _ (T491.setTop (mkF m 48 #[iv pp, iv ff, iv t0, iv t1, iv t2, iv t3, iv cc.toInt32, iv n.toInt32, iv c1.toInt32, rv b491, .unset, .unset, .unset, .unset] [(.int (ff &&& (255 : Int32))), (.int 0), (.ref b491)]))
    refine Go.st (fun _ => XS.iload X491.here C.hx rfl (hb C.hby at_48) rfl) ?_
    show Go p e below s n0 _ _ _ (T491.setTop (mkF m 50 #[iv pp, iv ff, iv t0, iv t1, iv t2, iv t3, iv cc.toInt32, iv n.toInt32, iv c1.toInt32, rv b491, .unset, .unset, .unset, .unset] [(.int c1.toInt32), (.int (ff &&& (255 : Int32))), (.int 0), (.ref b491)]))
    refine Go.irem C X491 (ne0 hc1 hc14) at_50 ?_
    show Go p e below s n0 _ _ _ (T491.setTop (mkF m 51 #[iv pp, iv ff, iv t0, iv t1, iv t2, iv t3, iv cc.toInt32, iv n.toInt32, iv c1.toInt32, rv b491, .unset, .unset, .unset, .unset] [(.int ((ff &&& (255 : Int32)) % c1.toInt32)), (.int 0), (.ref b491)]))
    refine Go.iastore C X491 A_b491 (by decide) (Nat.le_of_ble_eq_true rfl) ge491 at_51 (fun T492 h492 X492 W492 A492 => ?_)
    have A_492 : AR Z h492 b491 .int [(.int ((ff &&& (255 : Int32)) % c1.toInt32)), (.int 0), (.int 0), (.int 0)] := A492
    show Go p e below s n0 _ _ _ (T492.setTop (mkF m 52 #[iv pp, iv ff, iv t0, iv t1, iv t2, iv t3, iv cc.toInt32, iv n.toInt32, iv c1.toInt32, rv b491, .unset, .unset, .unset, .unset] []))
    refine Go.st (fun _ => XS.aload X492.here C.hx rfl (hb C.hby at_52) rfl rfl) ?_
    show Go p e below s n0 _ _ _ (T492.setTop (mkF m 54 #[iv pp, iv ff, iv t0, iv t1, iv t2, iv t3, iv cc.toInt32, iv n.toInt32, iv c1.toInt32, rv b491, .unset, .unset, .unset, .unset] [(.ref b491)]))
    refine Go.st (fun _ => XS.iconst X492.here C.hx rfl (hb C.hby at_54)) ?_
    show Go p e below s n0 _ _ _ (T492.setTop (mkF m 55 #[iv pp, iv ff, iv t0, iv t1, iv t2, iv t3, iv cc.toInt32, iv n.toInt32, iv c1.toInt32, rv b491, .unset, .unset, .unset, .unset] [(.int 1), (.ref b491)]))
    refine Go.st (fun _ => XS.iloadN X492.here C.hx rfl (hb C.hby at_55) rfl) ?_
    show Go p e below s n0 _ _ _ (T492.setTop (mkF m 56 #[iv pp, iv ff, iv t0, iv t1, iv t2, iv t3, iv cc.toInt32, iv n.toInt32, iv c1.toInt32, rv b491, .unset, .unset, .unset, .unset] [(.int ff), (.int 1), (.ref b491)]))
    refine Go.st (fun _ => XS.bipush X492.here C.hx rfl (hb C.hby at_56)) ?_
    show Go p e below s n0 _ _ _ (T492.setTop (mkF m 58 #[iv pp, iv ff, iv t0, iv t1, iv t2, iv t3, iv cc.toInt32, iv n.toInt32, iv c1.toInt32, rv b491, .unset, .unset, .unset, .unset] [(.int 8), (.int ff), (.int 1), (.ref b491)]))
    refine Go.st (fun _ => XS.iushr X492.here C.hx rfl (hb C.hby at_58) rfl) ?_
    show Go p e below s n0 _ _ _ (T492.setTop (mkF m 59 #[iv pp, iv ff, iv t0, iv t1, iv t2, iv t3, iv cc.toInt32, iv n.toInt32, iv c1.toInt32, rv b491, .unset, .unset, .unset, .unset] [(.int (ius ff (8 : Int32))), (.int 1), (.ref b491)]))
    refine Go.st (fun _ => XS.sipush X492.here C.hx rfl (hb C.hby at_59)) ?_
    show Go p e below s n0 _ _ _ (T492.setTop (mkF m 62 #[iv pp, iv ff, iv t0, iv t1, iv t2, iv t3, iv cc.toInt32, iv n.toInt32, iv c1.toInt32, rv b491, .unset, .unset, .unset, .unset] [(.int 255), (.int (ius ff (8 : Int32))), (.int 1), (.ref b491)]))
    refine Go.st (fun _ => XS.iand X492.here C.hx rfl (hb C.hby at_62) rfl) ?_
    show Go p e below s n0 _ _ _ (T492.setTop (mkF m 63 #[iv pp, iv ff, iv t0, iv t1, iv t2, iv t3, iv cc.toInt32, iv n.toInt32, iv c1.toInt32, rv b491, .unset, .unset, .unset, .unset] [(.int ((ius ff (8 : Int32)) &&& (255 : Int32))), (.int 1), (.ref b491)]))
    refine Go.st (fun _ => XS.iload X492.here C.hx rfl (hb C.hby at_63) rfl) ?_
    show Go p e below s n0 _ _ _ (T492.setTop (mkF m 65 #[iv pp, iv ff, iv t0, iv t1, iv t2, iv t3, iv cc.toInt32, iv n.toInt32, iv c1.toInt32, rv b491, .unset, .unset, .unset, .unset] [(.int c1.toInt32), (.int ((ius ff (8 : Int32)) &&& (255 : Int32))), (.int 1), (.ref b491)]))
    refine Go.irem C X492 (ne0 hc1 hc14) at_65 ?_
    show Go p e below s n0 _ _ _ (T492.setTop (mkF m 66 #[iv pp, iv ff, iv t0, iv t1, iv t2, iv t3, iv cc.toInt32, iv n.toInt32, iv c1.toInt32, rv b491, .unset, .unset, .unset, .unset] [(.int (((ius ff (8 : Int32)) &&& (255 : Int32)) % c1.toInt32)), (.int 1), (.ref b491)]))
    refine Go.iastore C X492 A_492 (by decide) (Nat.le_of_ble_eq_true rfl) ge491 at_66 (fun T493 h493 X493 W493 A493 => ?_)
    have A_493 : AR Z h493 b491 .int [(.int ((ff &&& (255 : Int32)) % c1.toInt32)), (.int (((ius ff (8 : Int32)) &&& (255 : Int32)) % c1.toInt32)), (.int 0), (.int 0)] := A493
    show Go p e below s n0 _ _ _ (T493.setTop (mkF m 67 #[iv pp, iv ff, iv t0, iv t1, iv t2, iv t3, iv cc.toInt32, iv n.toInt32, iv c1.toInt32, rv b491, .unset, .unset, .unset, .unset] []))
    refine Go.st (fun _ => XS.aload X493.here C.hx rfl (hb C.hby at_67) rfl rfl) ?_
    show Go p e below s n0 _ _ _ (T493.setTop (mkF m 69 #[iv pp, iv ff, iv t0, iv t1, iv t2, iv t3, iv cc.toInt32, iv n.toInt32, iv c1.toInt32, rv b491, .unset, .unset, .unset, .unset] [(.ref b491)]))
    refine Go.st (fun _ => XS.iconst X493.here C.hx rfl (hb C.hby at_69)) ?_
    show Go p e below s n0 _ _ _ (T493.setTop (mkF m 70 #[iv pp, iv ff, iv t0, iv t1, iv t2, iv t3, iv cc.toInt32, iv n.toInt32, iv c1.toInt32, rv b491, .unset, .unset, .unset, .unset] [(.int 2), (.ref b491)]))
    refine Go.st (fun _ => XS.iloadN X493.here C.hx rfl (hb C.hby at_70) rfl) ?_
    show Go p e below s n0 _ _ _ (T493.setTop (mkF m 71 #[iv pp, iv ff, iv t0, iv t1, iv t2, iv t3, iv cc.toInt32, iv n.toInt32, iv c1.toInt32, rv b491, .unset, .unset, .unset, .unset] [(.int ff), (.int 2), (.ref b491)]))
    refine Go.st (fun _ => XS.bipush X493.here C.hx rfl (hb C.hby at_71)) ?_
    show Go p e below s n0 _ _ _ (T493.setTop (mkF m 73 #[iv pp, iv ff, iv t0, iv t1, iv t2, iv t3, iv cc.toInt32, iv n.toInt32, iv c1.toInt32, rv b491, .unset, .unset, .unset, .unset] [(.int 16), (.int ff), (.int 2), (.ref b491)]))
    refine Go.st (fun _ => XS.iushr X493.here C.hx rfl (hb C.hby at_73) rfl) ?_
    show Go p e below s n0 _ _ _ (T493.setTop (mkF m 74 #[iv pp, iv ff, iv t0, iv t1, iv t2, iv t3, iv cc.toInt32, iv n.toInt32, iv c1.toInt32, rv b491, .unset, .unset, .unset, .unset] [(.int (ius ff (16 : Int32))), (.int 2), (.ref b491)]))
    refine Go.st (fun _ => XS.sipush X493.here C.hx rfl (hb C.hby at_74)) ?_
    show Go p e below s n0 _ _ _ (T493.setTop (mkF m 77 #[iv pp, iv ff, iv t0, iv t1, iv t2, iv t3, iv cc.toInt32, iv n.toInt32, iv c1.toInt32, rv b491, .unset, .unset, .unset, .unset] [(.int 255), (.int (ius ff (16 : Int32))), (.int 2), (.ref b491)]))
    refine Go.st (fun _ => XS.iand X493.here C.hx rfl (hb C.hby at_77) rfl) ?_
    show Go p e below s n0 _ _ _ (T493.setTop (mkF m 78 #[iv pp, iv ff, iv t0, iv t1, iv t2, iv t3, iv cc.toInt32, iv n.toInt32, iv c1.toInt32, rv b491, .unset, .unset, .unset, .unset] [(.int ((ius ff (16 : Int32)) &&& (255 : Int32))), (.int 2), (.ref b491)]))
    refine Go.st (fun _ => XS.iload X493.here C.hx rfl (hb C.hby at_78) rfl) ?_
    show Go p e below s n0 _ _ _ (T493.setTop (mkF m 80 #[iv pp, iv ff, iv t0, iv t1, iv t2, iv t3, iv cc.toInt32, iv n.toInt32, iv c1.toInt32, rv b491, .unset, .unset, .unset, .unset] [(.int c1.toInt32), (.int ((ius ff (16 : Int32)) &&& (255 : Int32))), (.int 2), (.ref b491)]))
    refine Go.irem C X493 (ne0 hc1 hc14) at_80 ?_
    show Go p e below s n0 _ _ _ (T493.setTop (mkF m 81 #[iv pp, iv ff, iv t0, iv t1, iv t2, iv t3, iv cc.toInt32, iv n.toInt32, iv c1.toInt32, rv b491, .unset, .unset, .unset, .unset] [(.int (((ius ff (16 : Int32)) &&& (255 : Int32)) % c1.toInt32)), (.int 2), (.ref b491)]))
    refine Go.iastore C X493 A_493 (by decide) (Nat.le_of_ble_eq_true rfl) ge491 at_81 (fun T494 h494 X494 W494 A494 => ?_)
    have A_494 : AR Z h494 b491 .int [(.int ((ff &&& (255 : Int32)) % c1.toInt32)), (.int (((ius ff (8 : Int32)) &&& (255 : Int32)) % c1.toInt32)), (.int (((ius ff (16 : Int32)) &&& (255 : Int32)) % c1.toInt32)), (.int 0)] := A494
    show Go p e below s n0 _ _ _ (T494.setTop (mkF m 82 #[iv pp, iv ff, iv t0, iv t1, iv t2, iv t3, iv cc.toInt32, iv n.toInt32, iv c1.toInt32, rv b491, .unset, .unset, .unset, .unset] []))
    refine Go.st (fun _ => XS.aload X494.here C.hx rfl (hb C.hby at_82) rfl rfl) ?_
    show Go p e below s n0 _ _ _ (T494.setTop (mkF m 84 #[iv pp, iv ff, iv t0, iv t1, iv t2, iv t3, iv cc.toInt32, iv n.toInt32, iv c1.toInt32, rv b491, .unset, .unset, .unset, .unset] [(.ref b491)]))
    refine Go.st (fun _ => XS.iconst X494.here C.hx rfl (hb C.hby at_84)) ?_
    show Go p e below s n0 _ _ _ (T494.setTop (mkF m 85 #[iv pp, iv ff, iv t0, iv t1, iv t2, iv t3, iv cc.toInt32, iv n.toInt32, iv c1.toInt32, rv b491, .unset, .unset, .unset, .unset] [(.int 3), (.ref b491)]))
    refine Go.st (fun _ => XS.iloadN X494.here C.hx rfl (hb C.hby at_85) rfl) ?_
    show Go p e below s n0 _ _ _ (T494.setTop (mkF m 86 #[iv pp, iv ff, iv t0, iv t1, iv t2, iv t3, iv cc.toInt32, iv n.toInt32, iv c1.toInt32, rv b491, .unset, .unset, .unset, .unset] [(.int ff), (.int 3), (.ref b491)]))
    refine Go.st (fun _ => XS.bipush X494.here C.hx rfl (hb C.hby at_86)) ?_
    show Go p e below s n0 _ _ _ (T494.setTop (mkF m 88 #[iv pp, iv ff, iv t0, iv t1, iv t2, iv t3, iv cc.toInt32, iv n.toInt32, iv c1.toInt32, rv b491, .unset, .unset, .unset, .unset] [(.int 24), (.int ff), (.int 3), (.ref b491)]))
    refine Go.st (fun _ => XS.iushr X494.here C.hx rfl (hb C.hby at_88) rfl) ?_
    show Go p e below s n0 _ _ _ (T494.setTop (mkF m 89 #[iv pp, iv ff, iv t0, iv t1, iv t2, iv t3, iv cc.toInt32, iv n.toInt32, iv c1.toInt32, rv b491, .unset, .unset, .unset, .unset] [(.int (ius ff (24 : Int32))), (.int 3), (.ref b491)]))
    refine Go.st (fun _ => XS.sipush X494.here C.hx rfl (hb C.hby at_89)) ?_
    show Go p e below s n0 _ _ _ (T494.setTop (mkF m 92 #[iv pp, iv ff, iv t0, iv t1, iv t2, iv t3, iv cc.toInt32, iv n.toInt32, iv c1.toInt32, rv b491, .unset, .unset, .unset, .unset] [(.int 255), (.int (ius ff (24 : Int32))), (.int 3), (.ref b491)]))
    refine Go.st (fun _ => XS.iand X494.here C.hx rfl (hb C.hby at_92) rfl) ?_
    show Go p e below s n0 _ _ _ (T494.setTop (mkF m 93 #[iv pp, iv ff, iv t0, iv t1, iv t2, iv t3, iv cc.toInt32, iv n.toInt32, iv c1.toInt32, rv b491, .unset, .unset, .unset, .unset] [(.int ((ius ff (24 : Int32)) &&& (255 : Int32))), (.int 3), (.ref b491)]))
    refine Go.st (fun _ => XS.iload X494.here C.hx rfl (hb C.hby at_93) rfl) ?_
    show Go p e below s n0 _ _ _ (T494.setTop (mkF m 95 #[iv pp, iv ff, iv t0, iv t1, iv t2, iv t3, iv cc.toInt32, iv n.toInt32, iv c1.toInt32, rv b491, .unset, .unset, .unset, .unset] [(.int c1.toInt32), (.int ((ius ff (24 : Int32)) &&& (255 : Int32))), (.int 3), (.ref b491)]))
    refine Go.irem C X494 (ne0 hc1 hc14) at_95 ?_
    show Go p e below s n0 _ _ _ (T494.setTop (mkF m 96 #[iv pp, iv ff, iv t0, iv t1, iv t2, iv t3, iv cc.toInt32, iv n.toInt32, iv c1.toInt32, rv b491, .unset, .unset, .unset, .unset] [(.int (((ius ff (24 : Int32)) &&& (255 : Int32)) % c1.toInt32)), (.int 3), (.ref b491)]))
    refine Go.iastore C X494 A_494 (by decide) (Nat.le_of_ble_eq_true rfl) ge491 at_96 (fun T495 h495 X495 W495 A495 => ?_)
    have A_495 : AR Z h495 b491 .int [(.int ((ff &&& (255 : Int32)) % c1.toInt32)), (.int (((ius ff (8 : Int32)) &&& (255 : Int32)) % c1.toInt32)), (.int (((ius ff (16 : Int32)) &&& (255 : Int32)) % c1.toInt32)), (.int (((ius ff (24 : Int32)) &&& (255 : Int32)) % c1.toInt32))] := A495
    obtain ⟨g0, hg0, eg0⟩ := modC ff hc1 hc14
    obtain ⟨g1, hg1, eg1⟩ := modC (ius ff (8 : Int32)) hc1 hc14
    obtain ⟨g2, hg2, eg2⟩ := modC (ius ff (16 : Int32)) hc1 hc14
    obtain ⟨g3, hg3, eg3⟩ := modC (ius ff (24 : Int32)) hc1 hc14
    have AFR : AR Z h495 b491 .int [(.int g0.toInt32), (.int g1.toInt32), (.int g2.toInt32), (.int g3.toInt32)] := by have u := A_495; rw [eg0, eg1, eg2, eg3] at u; exact u
    show Go p e below s n0 _ _ _ (T495.setTop (mkF m 97 #[iv pp, iv ff, iv t0, iv t1, iv t2, iv t3, iv cc.toInt32, iv n.toInt32, iv c1.toInt32, rv b491, .unset, .unset, .unset, .unset] []))
    refine Go.st (fun _ => XS.iconst X495.here C.hx rfl (hb C.hby at_97)) ?_
    show Go p e below s n0 _ _ _ (T495.setTop (mkF m 98 #[iv pp, iv ff, iv t0, iv t1, iv t2, iv t3, iv cc.toInt32, iv n.toInt32, iv c1.toInt32, rv b491, .unset, .unset, .unset, .unset] [(.int 4)]))
    refine Go.newP C X495 (aty := .int) (cap := 4) (wd 4 rfl) at_98 (by decide) (by decide) (by decide) (by decide) (by decide) (fun T496 h496 b496 g496 ge496 X496 E496 A496 => ?_)
    have ne_b491_b496 : b491 ≠ b496 := Nat.ne_of_lt (Nat.lt_of_lt_of_le (AFR).lt (Nat.le_of_eq g496))
    have A_b496 : AR Z h496 b496 .int [(.int 0), (.int 0), (.int 0), (.int 0)] := A496
    show Go p e below s n0 _ _ _ (T496.setTop (mkF m 100 #[iv pp, iv ff, iv t0, iv t1, iv t2, iv t3, iv cc.toInt32, iv n.toInt32, iv c1.toInt32, rv b491, .unset, .unset, .unset, .unset] [(.ref b496)]))
    refine Go.st (fun _ => XS.astore X496.here C.hx rfl (hb C.hby at_100) rfl rfl (l' := #[iv pp, iv ff, iv t0, iv t1, iv t2, iv t3, iv cc.toInt32, iv n.toInt32, iv c1.toInt32, rv b491, rv b496, .unset, .unset, .unset]) rfl) ?_
    show Go p e below s n0 _ _ _ (T496.setTop (mkF m 102 #[iv pp, iv ff, iv t0, iv t1, iv t2, iv t3, iv cc.toInt32, iv n.toInt32, iv c1.toInt32, rv b491, rv b496, .unset, .unset, .unset] []))
    refine Go.st (fun _ => XS.aload X496.here C.hx rfl (hb C.hby at_102) rfl rfl) ?_
    show Go p e below s n0 _ _ _ (T496.setTop (mkF m 104 #[iv pp, iv ff, iv t0, iv t1, iv t2, iv t3, iv cc.toInt32, iv n.toInt32, iv c1.toInt32, rv b491, rv b496, .unset, .unset, .unset] [(.ref b496)]))
    refine Go.st (fun _ => XS.iconst X496.here C.hx rfl (hb C.hby at_104)) ?_
    show Go p e below s n0 _ _ _ (T496.setTop (mkF m 105 #[iv pp, iv ff, iv t0, iv t1, iv t2, iv t3, iv cc.toInt32, iv n.toInt32, iv c1.toInt32, rv b491, rv b496, .unset, .unset, .unset] [(.int 0), (.ref b496)]))
    refine Go.st (fun _ => XS.iloadN X496.here C.hx rfl (hb C.hby at_105) rfl) ?_
    show Go p e below s n0 _ _ _ (T496.setTop (mkF m 106 #[iv pp, iv ff, iv t0, iv t1, iv t2, iv t3, iv cc.toInt32, iv n.toInt32, iv c1.toInt32, rv b491, rv b496, .unset, .unset, .unset] [(.int t0), (.int 0), (.ref b496)]))
    refine Go.iastore C X496 A_b496 (by decide) (Nat.le_of_ble_eq_true rfl) ge496 at_106 (fun T497 h497 X497 W497 A497 => ?_)
    have A_497 : AR Z h497 b496 .int [(.int t0), (.int 0), (.int 0), (.int 0)] := A497
    show Go p e below s n0 _ _ _ (T497.setTop (mkF m 107 #[iv pp, iv ff, iv t0, iv t1, iv t2, iv t3, iv cc.toInt32, iv n.toInt32, iv c1.toInt32, rv b491, rv b496, .unset, .unset, .unset] []))
    refine Go.st (fun _ => XS.aload X497.here C.hx rfl (hb C.hby at_107) rfl rfl) ?_
    show Go p e below s n0 _ _ _ (T497.setTop (mkF m 109 #[iv pp, iv ff, iv t0, iv t1, iv t2, iv t3, iv cc.toInt32, iv n.toInt32, iv c1.toInt32, rv b491, rv b496, .unset, .unset, .unset] [(.ref b496)]))
    refine Go.st (fun _ => XS.iconst X497.here C.hx rfl (hb C.hby at_109)) ?_
    show Go p e below s n0 _ _ _ (T497.setTop (mkF m 110 #[iv pp, iv ff, iv t0, iv t1, iv t2, iv t3, iv cc.toInt32, iv n.toInt32, iv c1.toInt32, rv b491, rv b496, .unset, .unset, .unset] [(.int 1), (.ref b496)]))
    refine Go.st (fun _ => XS.iloadN X497.here C.hx rfl (hb C.hby at_110) rfl) ?_
    show Go p e below s n0 _ _ _ (T497.setTop (mkF m 111 #[iv pp, iv ff, iv t0, iv t1, iv t2, iv t3, iv cc.toInt32, iv n.toInt32, iv c1.toInt32, rv b491, rv b496, .unset, .unset, .unset] [(.int t1), (.int 1), (.ref b496)]))
    refine Go.iastore C X497 A_497 (by decide) (Nat.le_of_ble_eq_true rfl) ge496 at_111 (fun T498 h498 X498 W498 A498 => ?_)
    have A_498 : AR Z h498 b496 .int [(.int t0), (.int t1), (.int 0), (.int 0)] := A498
    have A_b491_499 : AR Z h498 b491 .int [(.int g0.toInt32), (.int g1.toInt32), (.int g2.toInt32), (.int g3.toInt32)] := (((AFR.ext E496).other W497 ne_b491_b496).other W498 ne_b491_b496)
    show Go p e below s n0 _ _ _ (T498.setTop (mkF m 112 #[iv pp, iv ff, iv t0, iv t1, iv t2, iv t3, iv cc.toInt32, iv n.toInt32, iv c1.toInt32, rv b491, rv b496, .unset, .unset, .unset] []))
    refine Go.st (fun _ => XS.aload X498.here C.hx rfl (hb C.hby at_112) rfl rfl) ?_
    show Go p e below s n0 _ _ _ (T498.setTop (mkF m 114 #[iv pp, iv ff, iv t0, iv t1, iv t2, iv t3, iv cc.toInt32, iv n.toInt32, iv c1.toInt32, rv b491, rv b496, .unset, .unset, .unset] [(.ref b496)]))
    refine Go.st (fun _ => XS.iconst X498.here C.hx rfl (hb C.hby at_114)) ?_
    show Go p e below s n0 _ _ _ (T498.setTop (mkF m 115 #[iv pp, iv ff, iv t0, iv t1, iv t2, iv t3, iv cc.toInt32, iv n.toInt32, iv c1.toInt32, rv b491, rv b496, .unset, .unset, .unset] [(.int 2), (.ref b496)]))
    refine Go.st (fun _ => XS.iload X498.here C.hx rfl (hb C.hby at_115) rfl) ?_
    show Go p e below s n0 _ _ _ (T498.setTop (mkF m 117 #[iv pp, iv ff, iv t0, iv t1, iv t2, iv t3, iv cc.toInt32, iv n.toInt32, iv c1.toInt32, rv b491, rv b496, .unset, .unset, .unset] [(.int t2), (.int 2), (.ref b496)]))
    refine Go.iastore C X498 A_498 (by decide) (Nat.le_of_ble_eq_true rfl) ge496 at_117 (fun T500 h500 X500 W500 A500 => ?_)
    have A_500 : AR Z h500 b496 .int [(.int t0), (.int t1), (.int t2), (.int 0)] := A500
    show Go p e below s n0 _ _ _ (T500.setTop (mkF m 118 #[iv pp, iv ff, iv t0, iv t1, iv t2, iv t3, iv cc.toInt32, iv n.toInt32, iv c1.toInt32, rv b491, rv b496, .unset, .unset, .unset] []))
    refine Go.st (fun _ => XS.aload X500.here C.hx rfl (hb C.hby at_118) rfl rfl) ?_
    show Go p e below s n0 _ _ _ (T500.setTop (mkF m 120 #[iv pp, iv ff, iv t0, iv t1, iv t2, iv t3, iv cc.toInt32, iv n.toInt32, iv c1.toInt32, rv b491, rv b496, .unset, .unset, .unset] [(.ref b496)]))
    refine Go.st (fun _ => XS.iconst X500.here C.hx rfl (hb C.hby at_120)) ?_
    show Go p e below s n0 _ _ _ (T500.setTop (mkF m 121 #[iv pp, iv ff, iv t0, iv t1, iv t2, iv t3, iv cc.toInt32, iv n.toInt32, iv c1.toInt32, rv b491, rv b496, .unset, .unset, .unset] [(.int 3), (.ref b496)]))
    refine Go.st (fun _ => XS.iload X500.here C.hx rfl (hb C.hby at_121) rfl) ?_
    show Go p e below s n0 _ _ _ (T500.setTop (mkF m 123 #[iv pp, iv ff, iv t0, iv t1, iv t2, iv t3, iv cc.toInt32, iv n.toInt32, iv c1.toInt32, rv b491, rv b496, .unset, .unset, .unset] [(.int t3), (.int 3), (.ref b496)]))
    refine Go.iastore C X500 A_500 (by decide) (Nat.le_of_ble_eq_true rfl) ge496 at_123 (fun T501 h501 X501 W501 A501 => ?_)
    have A_501 : AR Z h501 b496 .int [(.int t0), (.int t1), (.int t2), (.int t3)] := A501
    have A_b491_502 : AR Z h501 b491 .int [(.int g0.toInt32), (.int g1.toInt32), (.int g2.toInt32), (.int g3.toInt32)] := ((A_b491_499.other W500 ne_b491_b496).other W501 ne_b491_b496)
    show Go p e below s n0 _ _ _ (T501.setTop (mkF m 124 #[iv pp, iv ff, iv t0, iv t1, iv t2, iv t3, iv cc.toInt32, iv n.toInt32, iv c1.toInt32, rv b491, rv b496, .unset, .unset, .unset] []))
    have JA : ∀ (TJ : State) (hJ : Heap) (ad l11 l12 : Addr) (rs : Nat → Addr), St p l e room_1 s m #[(.int pp), (.int ff), (.int t0), (.int t1), (.int t2), (.int t3)] below meth c n0 TJ hJ 10 40 → AO Z hJ ad (ouV cc cc rs) → (∀ x, x < cc → AR Z hJ (rs x) .int ((rowP (fsF g0 g1 g2 g3) (tsF t0 t1 t2 t3) n n x).map Value.int)) → AR Z hJ b491 .int [(.int g0.toInt32), (.int g1.toInt32), (.int g2.toInt32), (.int g3.toInt32)] → AR Z hJ b496 .int [(.int t0), (.int t1), (.int t2), (.int t3)] → Go p e below s n0 (room_1).cells (room_1).slots (fun v h => v = some (.int 1)) (TJ.setTop (mkF m 232 #[iv pp, iv ff, iv t0, iv t1, iv t2, iv t3, iv cc.toInt32, iv n.toInt32, iv c1.toInt32, rv b491, rv b496, rv l11, rv l12, .unset] [(.ref ad)])) := by
      intro TJ hJ ad l11 l12 rs XJ OJ RJ FJ VJ
      show Go p e below s n0 _ _ _ (TJ.setTop (mkF m 232 #[iv pp, iv ff, iv t0, iv t1, iv t2, iv t3, iv cc.toInt32, iv n.toInt32, iv c1.toInt32, rv b491, rv b496, rv l11, rv l12, .unset] [(.ref ad)]))
      refine Go.st (fun _ => XS.astore XJ.here C.hx rfl (hb C.hby at_232) rfl rfl (l' := #[iv pp, iv ff, iv t0, iv t1, iv t2, iv t3, iv cc.toInt32, iv n.toInt32, iv c1.toInt32, rv b491, rv b496, rv l11, rv l12, rv ad]) rfl) ?_
      show Go p e below s n0 _ _ _ (TJ.setTop (mkF m 234 #[iv pp, iv ff, iv t0, iv t1, iv t2, iv t3, iv cc.toInt32, iv n.toInt32, iv c1.toInt32, rv b491, rv b496, rv l11, rv l12, rv ad] []))
      refine Go.st (fun _ => XS.aload XJ.here C.hx rfl (hb C.hby at_234) rfl rfl) ?_
      show Go p e below s n0 _ _ _ (TJ.setTop (mkF m 236 #[iv pp, iv ff, iv t0, iv t1, iv t2, iv t3, iv cc.toInt32, iv n.toInt32, iv c1.toInt32, rv b491, rv b496, rv l11, rv l12, rv ad] [(.ref ad)]))
      refine Go.st (fun _ => XS.ifnullNo XJ.here C.hx rfl (hb C.hby at_236) rfl) ?_
      show Go p e below s n0 _ _ _ (TJ.setTop (mkF m 239 #[iv pp, iv ff, iv t0, iv t1, iv t2, iv t3, iv cc.toInt32, iv n.toInt32, iv c1.toInt32, rv b491, rv b496, rv l11, rv l12, rv ad] []))
      refine Go.st (fun _ => XS.aload XJ.here C.hx rfl (hb C.hby at_239) rfl rfl) ?_
      show Go p e below s n0 _ _ _ (TJ.setTop (mkF m 241 #[iv pp, iv ff, iv t0, iv t1, iv t2, iv t3, iv cc.toInt32, iv n.toInt32, iv c1.toInt32, rv b491, rv b496, rv l11, rv l12, rv ad] [(.ref ad)]))
      refine Go.alen C XJ (OJ).ar (z := cc.toInt32) (by rw [ou_len]) at_241 ?_
      show Go p e below s n0 _ _ _ (TJ.setTop (mkF m 242 #[iv pp, iv ff, iv t0, iv t1, iv t2, iv t3, iv cc.toInt32, iv n.toInt32, iv c1.toInt32, rv b491, rv b496, rv l11, rv l12, rv ad] [(.int cc.toInt32)]))
      refine Go.st (fun _ => XS.iload XJ.here C.hx rfl (hb C.hby at_242) rfl) ?_
      show Go p e below s n0 _ _ _ (TJ.setTop (mkF m 244 #[iv pp, iv ff, iv t0, iv t1, iv t2, iv t3, iv cc.toInt32, iv n.toInt32, iv c1.toInt32, rv b491, rv b496, rv l11, rv l12, rv ad] [(.int cc.toInt32), (.int cc.toInt32)]))
      refine Go.icmp_eq C XJ (pc' := 249) at_244 (by decide) (by decide) (fun _ => ?_) (fun hc => by first | exact absurd hc rfl | exact absurd rfl hc)
      show Go p e below s n0 _ _ _ (TJ.setTop (mkF m 249 #[iv pp, iv ff, iv t0, iv t1, iv t2, iv t3, iv cc.toInt32, iv n.toInt32, iv c1.toInt32, rv b491, rv b496, rv l11, rv l12, rv ad] []))
      refine Go.st (fun _ => XS.iload XJ.here C.hx rfl (hb C.hby at_249) rfl) ?_
      show Go p e below s n0 _ _ _ (TJ.setTop (mkF m 251 #[iv pp, iv ff, iv t0, iv t1, iv t2, iv t3, iv cc.toInt32, iv n.toInt32, iv c1.toInt32, rv b491, rv b496, rv l11, rv l12, rv ad] [(.int cc.toInt32)]))
      refine Go.st (fun _ => XS.iconst XJ.here C.hx rfl (hb C.hby at_251)) ?_
      show Go p e below s n0 _ _ _ (TJ.setTop (mkF m 252 #[iv pp, iv ff, iv t0, iv t1, iv t2, iv t3, iv cc.toInt32, iv n.toInt32, iv c1.toInt32, rv b491, rv b496, rv l11, rv l12, rv ad] [(.int 1), (.int cc.toInt32)]))
      refine Go.icmp_lt C XJ (pc' := 270) at_252 (by decide) (by decide) (fun hc252_504 => ?_) (fun hc252_504 => ?_)
      · show Go p e below s n0 _ _ _ (TJ.setTop (mkF m 270 #[iv pp, iv ff, iv t0, iv t1, iv t2, iv t3, iv cc.toInt32, iv n.toInt32, iv c1.toInt32, rv b491, rv b496, rv l11, rv l12, rv ad] []))
        refine Go.st (fun _ => XS.iload XJ.here C.hx rfl (hb C.hby at_270) rfl) ?_
        show Go p e below s n0 _ _ _ (TJ.setTop (mkF m 272 #[iv pp, iv ff, iv t0, iv t1, iv t2, iv t3, iv cc.toInt32, iv n.toInt32, iv c1.toInt32, rv b491, rv b496, rv l11, rv l12, rv ad] [(.int cc.toInt32)]))
        refine Go.st (fun _ => XS.iconst XJ.here C.hx rfl (hb C.hby at_272)) ?_
        show Go p e below s n0 _ _ _ (TJ.setTop (mkF m 273 #[iv pp, iv ff, iv t0, iv t1, iv t2, iv t3, iv cc.toInt32, iv n.toInt32, iv c1.toInt32, rv b491, rv b496, rv l11, rv l12, rv ad] [(.int 2), (.int cc.toInt32)]))
        refine Go.icmp_lt C XJ (pc' := 291) at_273 (by decide) (by decide) (fun _ => ?_) (fun hc => by first | exact absurd hc (ltUp (a := 1) (b := 2) hcc (by decide) (by decide) (by decide) hc252_504) | exact absurd (ltUp (a := 1) (b := 2) hcc (by decide) (by decide) (by decide) hc252_504) hc)
        show Go p e below s n0 _ _ _ (TJ.setTop (mkF m 291 #[iv pp, iv ff, iv t0, iv t1, iv t2, iv t3, iv cc.toInt32, iv n.toInt32, iv c1.toInt32, rv b491, rv b496, rv l11, rv l12, rv ad] []))
        refine Go.st (fun _ => XS.iload XJ.here C.hx rfl (hb C.hby at_291) rfl) ?_
        show Go p e below s n0 _ _ _ (TJ.setTop (mkF m 293 #[iv pp, iv ff, iv t0, iv t1, iv t2, iv t3, iv cc.toInt32, iv n.toInt32, iv c1.toInt32, rv b491, rv b496, rv l11, rv l12, rv ad] [(.int cc.toInt32)]))
        refine Go.st (fun _ => XS.iconst XJ.here C.hx rfl (hb C.hby at_293)) ?_
        show Go p e below s n0 _ _ _ (TJ.setTop (mkF m 294 #[iv pp, iv ff, iv t0, iv t1, iv t2, iv t3, iv cc.toInt32, iv n.toInt32, iv c1.toInt32, rv b491, rv b496, rv l11, rv l12, rv ad] [(.int 3), (.int cc.toInt32)]))
        refine Go.icmp_lt C XJ (pc' := 312) at_294 (by decide) (by decide) (fun _ => ?_) (fun hc => by first | exact absurd hc (ltUp (a := 1) (b := 3) hcc (by decide) (by decide) (by decide) hc252_504) | exact absurd (ltUp (a := 1) (b := 3) hcc (by decide) (by decide) (by decide) hc252_504) hc)
        show Go p e below s n0 _ _ _ (TJ.setTop (mkF m 312 #[iv pp, iv ff, iv t0, iv t1, iv t2, iv t3, iv cc.toInt32, iv n.toInt32, iv c1.toInt32, rv b491, rv b496, rv l11, rv l12, rv ad] []))
        refine Go.st (fun _ => XS.iload XJ.here C.hx rfl (hb C.hby at_312) rfl) ?_
        show Go p e below s n0 _ _ _ (TJ.setTop (mkF m 314 #[iv pp, iv ff, iv t0, iv t1, iv t2, iv t3, iv cc.toInt32, iv n.toInt32, iv c1.toInt32, rv b491, rv b496, rv l11, rv l12, rv ad] [(.int cc.toInt32)]))
        refine Go.st (fun _ => XS.iconst XJ.here C.hx rfl (hb C.hby at_314)) ?_
        show Go p e below s n0 _ _ _ (TJ.setTop (mkF m 315 #[iv pp, iv ff, iv t0, iv t1, iv t2, iv t3, iv cc.toInt32, iv n.toInt32, iv c1.toInt32, rv b491, rv b496, rv l11, rv l12, rv ad] [(.int 4), (.int cc.toInt32)]))
        refine Go.icmp_lt C XJ (pc' := 333) at_315 (by decide) (by decide) (fun _ => ?_) (fun hc => by first | exact absurd hc (ltUp (a := 1) (b := 4) hcc (by decide) (by decide) (by decide) hc252_504) | exact absurd (ltUp (a := 1) (b := 4) hcc (by decide) (by decide) (by decide) hc252_504) hc)
        show Go p e below s n0 _ _ _ (TJ.setTop (mkF m 333 #[iv pp, iv ff, iv t0, iv t1, iv t2, iv t3, iv cc.toInt32, iv n.toInt32, iv c1.toInt32, rv b491, rv b496, rv l11, rv l12, rv ad] []))
        refine Go.st (fun _ => XS.iconst XJ.here C.hx rfl (hb C.hby at_333)) ?_
        show Go p e below s n0 _ _ _ (TJ.setTop (mkF m 334 #[iv pp, iv ff, iv t0, iv t1, iv t2, iv t3, iv cc.toInt32, iv n.toInt32, iv c1.toInt32, rv b491, rv b496, rv l11, rv l12, rv ad] [(.int 1)]))
        refine Go.st (fun _ => XS.goto XJ.here C.hx rfl (pc0 := 334) (pc' := 338) rfl (hb C.hby at_334) (by decide) (by decide)) ?_
        show Go p e below s n0 _ _ _ (TJ.setTop (mkF m 338 #[iv pp, iv ff, iv t0, iv t1, iv t2, iv t3, iv cc.toInt32, iv n.toInt32, iv c1.toInt32, rv b491, rv b496, rv l11, rv l12, rv ad] [(.int 1)]))
        exact Go.retZ C XJ (by decide) at_338 rfl (by decide) (by decide)
      · show Go p e below s n0 _ _ _ (TJ.setTop (mkF m 255 #[iv pp, iv ff, iv t0, iv t1, iv t2, iv t3, iv cc.toInt32, iv n.toInt32, iv c1.toInt32, rv b491, rv b496, rv l11, rv l12, rv ad] []))
        refine Go.st (fun _ => XS.aload XJ.here C.hx rfl (hb C.hby at_255) rfl rfl) ?_
        show Go p e below s n0 _ _ _ (TJ.setTop (mkF m 257 #[iv pp, iv ff, iv t0, iv t1, iv t2, iv t3, iv cc.toInt32, iv n.toInt32, iv c1.toInt32, rv b491, rv b496, rv l11, rv l12, rv ad] [(.ref ad)]))
        refine Go.st (fun _ => XS.iconst XJ.here C.hx rfl (hb C.hby at_257)) ?_
        show Go p e below s n0 _ _ _ (TJ.setTop (mkF m 258 #[iv pp, iv ff, iv t0, iv t1, iv t2, iv t3, iv cc.toInt32, iv n.toInt32, iv c1.toInt32, rv b491, rv b496, rv l11, rv l12, rv ad] [(.int 0), (.ref ad)]))
        refine Go.st (fun _ => XS.iload XJ.here C.hx rfl (hb C.hby at_258) rfl) ?_
        show Go p e below s n0 _ _ _ (TJ.setTop (mkF m 260 #[iv pp, iv ff, iv t0, iv t1, iv t2, iv t3, iv cc.toInt32, iv n.toInt32, iv c1.toInt32, rv b491, rv b496, rv l11, rv l12, rv ad] [(.int n.toInt32), (.int 0), (.ref ad)]))
        refine Go.st (fun _ => XS.aload XJ.here C.hx rfl (hb C.hby at_260) rfl rfl) ?_
        show Go p e below s n0 _ _ _ (TJ.setTop (mkF m 262 #[iv pp, iv ff, iv t0, iv t1, iv t2, iv t3, iv cc.toInt32, iv n.toInt32, iv c1.toInt32, rv b491, rv b496, rv l11, rv l12, rv ad] [(.ref b491), (.int n.toInt32), (.int 0), (.ref ad)]))
        refine Go.st (fun _ => XS.aload XJ.here C.hx rfl (hb C.hby at_262) rfl rfl) ?_
        show Go p e below s n0 _ _ _ (TJ.setTop (mkF m 264 #[iv pp, iv ff, iv t0, iv t1, iv t2, iv t3, iv cc.toInt32, iv n.toInt32, iv c1.toInt32, rv b491, rv b496, rv l11, rv l12, rv ad] [(.ref b496), (.ref b491), (.int n.toInt32), (.int 0), (.ref ad)]))
        refine Go.callS C XJ (W := 0) (argsL := [(.ref ad), (.int 0), (.int n.toInt32), (.ref b491), (.ref b496)]) (rest := []) (wd 12 rfl) (wd 13 rfl) (wd 14 rfl) (wd 15 rfl) (by decide) (con_row l Z a0 hw n0 hJ XJ.size ad b491 b496 (0 : Int32) n.toInt32 cc n 0 g0 g1 g2 g3 t0 t1 t2 t3 rs hcc hn (ltNo (a := 1) hcc (by decide) hc252_504) (by omega) (by omega) (by omega) (by omega) rfl rfl OJ RJ FJ VJ) (by decide) (by decide) rfl (lenOf pd_3 rfl) (Nat.le_of_ble_eq_true rfl) rfl at_264 (by decide) (by decide) (fun T508 h508 v508 X508 hQ508 => ?_)
        obtain ⟨rfl, K508⟩ := hQ508
        show Go p e below s n0 _ _ _ (T508.setTop (mkF m 267 #[iv pp, iv ff, iv t0, iv t1, iv t2, iv t3, iv cc.toInt32, iv n.toInt32, iv c1.toInt32, rv b491, rv b496, rv l11, rv l12, rv ad] [(.int 1)]))
        refine Go.if_eq C X508 (pc' := 337) at_267 (by decide) (by decide) (fun hc => absurd hc (by decide)) (fun _ => ?_)
        show Go p e below s n0 _ _ _ (T508.setTop (mkF m 270 #[iv pp, iv ff, iv t0, iv t1, iv t2, iv t3, iv cc.toInt32, iv n.toInt32, iv c1.toInt32, rv b491, rv b496, rv l11, rv l12, rv ad] []))
        refine Go.st (fun _ => XS.iload X508.here C.hx rfl (hb C.hby at_270) rfl) ?_
        show Go p e below s n0 _ _ _ (T508.setTop (mkF m 272 #[iv pp, iv ff, iv t0, iv t1, iv t2, iv t3, iv cc.toInt32, iv n.toInt32, iv c1.toInt32, rv b491, rv b496, rv l11, rv l12, rv ad] [(.int cc.toInt32)]))
        refine Go.st (fun _ => XS.iconst X508.here C.hx rfl (hb C.hby at_272)) ?_
        show Go p e below s n0 _ _ _ (T508.setTop (mkF m 273 #[iv pp, iv ff, iv t0, iv t1, iv t2, iv t3, iv cc.toInt32, iv n.toInt32, iv c1.toInt32, rv b491, rv b496, rv l11, rv l12, rv ad] [(.int 2), (.int cc.toInt32)]))
        refine Go.icmp_lt C X508 (pc' := 291) at_273 (by decide) (by decide) (fun hc273_510 => ?_) (fun hc273_510 => ?_)
        · show Go p e below s n0 _ _ _ (T508.setTop (mkF m 291 #[iv pp, iv ff, iv t0, iv t1, iv t2, iv t3, iv cc.toInt32, iv n.toInt32, iv c1.toInt32, rv b491, rv b496, rv l11, rv l12, rv ad] []))
          refine Go.st (fun _ => XS.iload X508.here C.hx rfl (hb C.hby at_291) rfl) ?_
          show Go p e below s n0 _ _ _ (T508.setTop (mkF m 293 #[iv pp, iv ff, iv t0, iv t1, iv t2, iv t3, iv cc.toInt32, iv n.toInt32, iv c1.toInt32, rv b491, rv b496, rv l11, rv l12, rv ad] [(.int cc.toInt32)]))
          refine Go.st (fun _ => XS.iconst X508.here C.hx rfl (hb C.hby at_293)) ?_
          show Go p e below s n0 _ _ _ (T508.setTop (mkF m 294 #[iv pp, iv ff, iv t0, iv t1, iv t2, iv t3, iv cc.toInt32, iv n.toInt32, iv c1.toInt32, rv b491, rv b496, rv l11, rv l12, rv ad] [(.int 3), (.int cc.toInt32)]))
          refine Go.icmp_lt C X508 (pc' := 312) at_294 (by decide) (by decide) (fun _ => ?_) (fun hc => by first | exact absurd hc (ltUp (a := 2) (b := 3) hcc (by decide) (by decide) (by decide) hc273_510) | exact absurd (ltUp (a := 2) (b := 3) hcc (by decide) (by decide) (by decide) hc273_510) hc)
          show Go p e below s n0 _ _ _ (T508.setTop (mkF m 312 #[iv pp, iv ff, iv t0, iv t1, iv t2, iv t3, iv cc.toInt32, iv n.toInt32, iv c1.toInt32, rv b491, rv b496, rv l11, rv l12, rv ad] []))
          refine Go.st (fun _ => XS.iload X508.here C.hx rfl (hb C.hby at_312) rfl) ?_
          show Go p e below s n0 _ _ _ (T508.setTop (mkF m 314 #[iv pp, iv ff, iv t0, iv t1, iv t2, iv t3, iv cc.toInt32, iv n.toInt32, iv c1.toInt32, rv b491, rv b496, rv l11, rv l12, rv ad] [(.int cc.toInt32)]))
          refine Go.st (fun _ => XS.iconst X508.here C.hx rfl (hb C.hby at_314)) ?_
          show Go p e below s n0 _ _ _ (T508.setTop (mkF m 315 #[iv pp, iv ff, iv t0, iv t1, iv t2, iv t3, iv cc.toInt32, iv n.toInt32, iv c1.toInt32, rv b491, rv b496, rv l11, rv l12, rv ad] [(.int 4), (.int cc.toInt32)]))
          refine Go.icmp_lt C X508 (pc' := 333) at_315 (by decide) (by decide) (fun _ => ?_) (fun hc => by first | exact absurd hc (ltUp (a := 2) (b := 4) hcc (by decide) (by decide) (by decide) hc273_510) | exact absurd (ltUp (a := 2) (b := 4) hcc (by decide) (by decide) (by decide) hc273_510) hc)
          show Go p e below s n0 _ _ _ (T508.setTop (mkF m 333 #[iv pp, iv ff, iv t0, iv t1, iv t2, iv t3, iv cc.toInt32, iv n.toInt32, iv c1.toInt32, rv b491, rv b496, rv l11, rv l12, rv ad] []))
          refine Go.st (fun _ => XS.iconst X508.here C.hx rfl (hb C.hby at_333)) ?_
          show Go p e below s n0 _ _ _ (T508.setTop (mkF m 334 #[iv pp, iv ff, iv t0, iv t1, iv t2, iv t3, iv cc.toInt32, iv n.toInt32, iv c1.toInt32, rv b491, rv b496, rv l11, rv l12, rv ad] [(.int 1)]))
          refine Go.st (fun _ => XS.goto X508.here C.hx rfl (pc0 := 334) (pc' := 338) rfl (hb C.hby at_334) (by decide) (by decide)) ?_
          show Go p e below s n0 _ _ _ (T508.setTop (mkF m 338 #[iv pp, iv ff, iv t0, iv t1, iv t2, iv t3, iv cc.toInt32, iv n.toInt32, iv c1.toInt32, rv b491, rv b496, rv l11, rv l12, rv ad] [(.int 1)]))
          exact Go.retZ C X508 (by decide) at_338 rfl (by decide) (by decide)
        · show Go p e below s n0 _ _ _ (T508.setTop (mkF m 276 #[iv pp, iv ff, iv t0, iv t1, iv t2, iv t3, iv cc.toInt32, iv n.toInt32, iv c1.toInt32, rv b491, rv b496, rv l11, rv l12, rv ad] []))
          refine Go.st (fun _ => XS.aload X508.here C.hx rfl (hb C.hby at_276) rfl rfl) ?_
          show Go p e below s n0 _ _ _ (T508.setTop (mkF m 278 #[iv pp, iv ff, iv t0, iv t1, iv t2, iv t3, iv cc.toInt32, iv n.toInt32, iv c1.toInt32, rv b491, rv b496, rv l11, rv l12, rv ad] [(.ref ad)]))
          refine Go.st (fun _ => XS.iconst X508.here C.hx rfl (hb C.hby at_278)) ?_
          show Go p e below s n0 _ _ _ (T508.setTop (mkF m 279 #[iv pp, iv ff, iv t0, iv t1, iv t2, iv t3, iv cc.toInt32, iv n.toInt32, iv c1.toInt32, rv b491, rv b496, rv l11, rv l12, rv ad] [(.int 1), (.ref ad)]))
          refine Go.st (fun _ => XS.iload X508.here C.hx rfl (hb C.hby at_279) rfl) ?_
          show Go p e below s n0 _ _ _ (T508.setTop (mkF m 281 #[iv pp, iv ff, iv t0, iv t1, iv t2, iv t3, iv cc.toInt32, iv n.toInt32, iv c1.toInt32, rv b491, rv b496, rv l11, rv l12, rv ad] [(.int n.toInt32), (.int 1), (.ref ad)]))
          refine Go.st (fun _ => XS.aload X508.here C.hx rfl (hb C.hby at_281) rfl rfl) ?_
          show Go p e below s n0 _ _ _ (T508.setTop (mkF m 283 #[iv pp, iv ff, iv t0, iv t1, iv t2, iv t3, iv cc.toInt32, iv n.toInt32, iv c1.toInt32, rv b491, rv b496, rv l11, rv l12, rv ad] [(.ref b491), (.int n.toInt32), (.int 1), (.ref ad)]))
          refine Go.st (fun _ => XS.aload X508.here C.hx rfl (hb C.hby at_283) rfl rfl) ?_
          show Go p e below s n0 _ _ _ (T508.setTop (mkF m 285 #[iv pp, iv ff, iv t0, iv t1, iv t2, iv t3, iv cc.toInt32, iv n.toInt32, iv c1.toInt32, rv b491, rv b496, rv l11, rv l12, rv ad] [(.ref b496), (.ref b491), (.int n.toInt32), (.int 1), (.ref ad)]))
          refine Go.callS C X508 (W := 0) (argsL := [(.ref ad), (.int 1), (.int n.toInt32), (.ref b491), (.ref b496)]) (rest := []) (wd 12 rfl) (wd 13 rfl) (wd 14 rfl) (wd 15 rfl) (by decide) (con_row l Z a0 hw n0 h508 X508.size ad b491 b496 (1 : Int32) n.toInt32 cc n 1 g0 g1 g2 g3 t0 t1 t2 t3 rs hcc hn (ltNo (a := 2) hcc (by decide) hc273_510) (by omega) (by omega) (by omega) (by omega) rfl rfl (OJ.keep K508 nin0) (fun x hx => (RJ x hx).keep K508 nin0) (FJ.keep K508 nin0) (VJ.keep K508 nin0)) (by decide) (by decide) rfl (lenOf pd_3 rfl) (Nat.le_of_ble_eq_true rfl) rfl at_285 (by decide) (by decide) (fun T513 h513 v513 X513 hQ513 => ?_)
          obtain ⟨rfl, K513⟩ := hQ513
          have RF_514 : ∀ x, x < cc → AR Z h513 (rs x) .int ((rowP (fsF g0 g1 g2 g3) (tsF t0 t1 t2 t3) n n x).map Value.int) := (fun x hx => ((fun x hx => (RJ x hx).keep K508 nin0) x hx).keep K513 nin0)
          show Go p e below s n0 _ _ _ (T513.setTop (mkF m 288 #[iv pp, iv ff, iv t0, iv t1, iv t2, iv t3, iv cc.toInt32, iv n.toInt32, iv c1.toInt32, rv b491, rv b496, rv l11, rv l12, rv ad] [(.int 1)]))
          refine Go.if_eq C X513 (pc' := 337) at_288 (by decide) (by decide) (fun hc => absurd hc (by decide)) (fun _ => ?_)
          show Go p e below s n0 _ _ _ (T513.setTop (mkF m 291 #[iv pp, iv ff, iv t0, iv t1, iv t2, iv t3, iv cc.toInt32, iv n.toInt32, iv c1.toInt32, rv b491, rv b496, rv l11, rv l12, rv ad] []))
          refine Go.st (fun _ => XS.iload X513.here C.hx rfl (hb C.hby at_291) rfl) ?_
          show Go p e below s n0 _ _ _ (T513.setTop (mkF m 293 #[iv pp, iv ff, iv t0, iv t1, iv t2, iv t3, iv cc.toInt32, iv n.toInt32, iv c1.toInt32, rv b491, rv b496, rv l11, rv l12, rv ad] [(.int cc.toInt32)]))
          refine Go.st (fun _ => XS.iconst X513.here C.hx rfl (hb C.hby at_293)) ?_
          show Go p e below s n0 _ _ _ (T513.setTop (mkF m 294 #[iv pp, iv ff, iv t0, iv t1, iv t2, iv t3, iv cc.toInt32, iv n.toInt32, iv c1.toInt32, rv b491, rv b496, rv l11, rv l12, rv ad] [(.int 3), (.int cc.toInt32)]))
          refine Go.icmp_lt C X513 (pc' := 312) at_294 (by decide) (by decide) (fun hc294_516 => ?_) (fun hc294_516 => ?_)
          · show Go p e below s n0 _ _ _ (T513.setTop (mkF m 312 #[iv pp, iv ff, iv t0, iv t1, iv t2, iv t3, iv cc.toInt32, iv n.toInt32, iv c1.toInt32, rv b491, rv b496, rv l11, rv l12, rv ad] []))
            refine Go.st (fun _ => XS.iload X513.here C.hx rfl (hb C.hby at_312) rfl) ?_
            show Go p e below s n0 _ _ _ (T513.setTop (mkF m 314 #[iv pp, iv ff, iv t0, iv t1, iv t2, iv t3, iv cc.toInt32, iv n.toInt32, iv c1.toInt32, rv b491, rv b496, rv l11, rv l12, rv ad] [(.int cc.toInt32)]))
            refine Go.st (fun _ => XS.iconst X513.here C.hx rfl (hb C.hby at_314)) ?_
            show Go p e below s n0 _ _ _ (T513.setTop (mkF m 315 #[iv pp, iv ff, iv t0, iv t1, iv t2, iv t3, iv cc.toInt32, iv n.toInt32, iv c1.toInt32, rv b491, rv b496, rv l11, rv l12, rv ad] [(.int 4), (.int cc.toInt32)]))
            refine Go.icmp_lt C X513 (pc' := 333) at_315 (by decide) (by decide) (fun _ => ?_) (fun hc => by first | exact absurd hc (ltUp (a := 3) (b := 4) hcc (by decide) (by decide) (by decide) hc294_516) | exact absurd (ltUp (a := 3) (b := 4) hcc (by decide) (by decide) (by decide) hc294_516) hc)
            show Go p e below s n0 _ _ _ (T513.setTop (mkF m 333 #[iv pp, iv ff, iv t0, iv t1, iv t2, iv t3, iv cc.toInt32, iv n.toInt32, iv c1.toInt32, rv b491, rv b496, rv l11, rv l12, rv ad] []))
            refine Go.st (fun _ => XS.iconst X513.here C.hx rfl (hb C.hby at_333)) ?_
            show Go p e below s n0 _ _ _ (T513.setTop (mkF m 334 #[iv pp, iv ff, iv t0, iv t1, iv t2, iv t3, iv cc.toInt32, iv n.toInt32, iv c1.toInt32, rv b491, rv b496, rv l11, rv l12, rv ad] [(.int 1)]))
            refine Go.st (fun _ => XS.goto X513.here C.hx rfl (pc0 := 334) (pc' := 338) rfl (hb C.hby at_334) (by decide) (by decide)) ?_
            show Go p e below s n0 _ _ _ (T513.setTop (mkF m 338 #[iv pp, iv ff, iv t0, iv t1, iv t2, iv t3, iv cc.toInt32, iv n.toInt32, iv c1.toInt32, rv b491, rv b496, rv l11, rv l12, rv ad] [(.int 1)]))
            exact Go.retZ C X513 (by decide) at_338 rfl (by decide) (by decide)
          · show Go p e below s n0 _ _ _ (T513.setTop (mkF m 297 #[iv pp, iv ff, iv t0, iv t1, iv t2, iv t3, iv cc.toInt32, iv n.toInt32, iv c1.toInt32, rv b491, rv b496, rv l11, rv l12, rv ad] []))
            refine Go.st (fun _ => XS.aload X513.here C.hx rfl (hb C.hby at_297) rfl rfl) ?_
            show Go p e below s n0 _ _ _ (T513.setTop (mkF m 299 #[iv pp, iv ff, iv t0, iv t1, iv t2, iv t3, iv cc.toInt32, iv n.toInt32, iv c1.toInt32, rv b491, rv b496, rv l11, rv l12, rv ad] [(.ref ad)]))
            refine Go.st (fun _ => XS.iconst X513.here C.hx rfl (hb C.hby at_299)) ?_
            show Go p e below s n0 _ _ _ (T513.setTop (mkF m 300 #[iv pp, iv ff, iv t0, iv t1, iv t2, iv t3, iv cc.toInt32, iv n.toInt32, iv c1.toInt32, rv b491, rv b496, rv l11, rv l12, rv ad] [(.int 2), (.ref ad)]))
            refine Go.st (fun _ => XS.iload X513.here C.hx rfl (hb C.hby at_300) rfl) ?_
            show Go p e below s n0 _ _ _ (T513.setTop (mkF m 302 #[iv pp, iv ff, iv t0, iv t1, iv t2, iv t3, iv cc.toInt32, iv n.toInt32, iv c1.toInt32, rv b491, rv b496, rv l11, rv l12, rv ad] [(.int n.toInt32), (.int 2), (.ref ad)]))
            refine Go.st (fun _ => XS.aload X513.here C.hx rfl (hb C.hby at_302) rfl rfl) ?_
            show Go p e below s n0 _ _ _ (T513.setTop (mkF m 304 #[iv pp, iv ff, iv t0, iv t1, iv t2, iv t3, iv cc.toInt32, iv n.toInt32, iv c1.toInt32, rv b491, rv b496, rv l11, rv l12, rv ad] [(.ref b491), (.int n.toInt32), (.int 2), (.ref ad)]))
            refine Go.st (fun _ => XS.aload X513.here C.hx rfl (hb C.hby at_304) rfl rfl) ?_
            show Go p e below s n0 _ _ _ (T513.setTop (mkF m 306 #[iv pp, iv ff, iv t0, iv t1, iv t2, iv t3, iv cc.toInt32, iv n.toInt32, iv c1.toInt32, rv b491, rv b496, rv l11, rv l12, rv ad] [(.ref b496), (.ref b491), (.int n.toInt32), (.int 2), (.ref ad)]))
            refine Go.callS C X513 (W := 0) (argsL := [(.ref ad), (.int 2), (.int n.toInt32), (.ref b491), (.ref b496)]) (rest := []) (wd 12 rfl) (wd 13 rfl) (wd 14 rfl) (wd 15 rfl) (by decide) (con_row l Z a0 hw n0 h513 X513.size ad b491 b496 (2 : Int32) n.toInt32 cc n 2 g0 g1 g2 g3 t0 t1 t2 t3 rs hcc hn (ltNo (a := 3) hcc (by decide) hc294_516) (by omega) (by omega) (by omega) (by omega) rfl rfl ((OJ.keep K508 nin0).keep K513 nin0) RF_514 ((FJ.keep K508 nin0).keep K513 nin0) ((VJ.keep K508 nin0).keep K513 nin0)) (by decide) (by decide) rfl (lenOf pd_3 rfl) (Nat.le_of_ble_eq_true rfl) rfl at_306 (by decide) (by decide) (fun T518 h518 v518 X518 hQ518 => ?_)
            obtain ⟨rfl, K518⟩ := hQ518
            have O_519 : AO Z h518 ad (ouV cc cc rs) := (((OJ.keep K508 nin0).keep K513 nin0).keep K518 nin0)
            have RF_520 : ∀ x, x < cc → AR Z h518 (rs x) .int ((rowP (fsF g0 g1 g2 g3) (tsF t0 t1 t2 t3) n n x).map Value.int) := (fun x hx => (RF_514 x hx).keep K518 nin0)
            have A_b491_521 : AR Z h518 b491 .int [(.int g0.toInt32), (.int g1.toInt32), (.int g2.toInt32), (.int g3.toInt32)] := (((FJ.keep K508 nin0).keep K513 nin0).keep K518 nin0)
            have A_b496_522 : AR Z h518 b496 .int [(.int t0), (.int t1), (.int t2), (.int t3)] := (((VJ.keep K508 nin0).keep K513 nin0).keep K518 nin0)
            show Go p e below s n0 _ _ _ (T518.setTop (mkF m 309 #[iv pp, iv ff, iv t0, iv t1, iv t2, iv t3, iv cc.toInt32, iv n.toInt32, iv c1.toInt32, rv b491, rv b496, rv l11, rv l12, rv ad] [(.int 1)]))
            refine Go.if_eq C X518 (pc' := 337) at_309 (by decide) (by decide) (fun hc => absurd hc (by decide)) (fun _ => ?_)
            show Go p e below s n0 _ _ _ (T518.setTop (mkF m 312 #[iv pp, iv ff, iv t0, iv t1, iv t2, iv t3, iv cc.toInt32, iv n.toInt32, iv c1.toInt32, rv b491, rv b496, rv l11, rv l12, rv ad] []))
            refine Go.st (fun _ => XS.iload X518.here C.hx rfl (hb C.hby at_312) rfl) ?_
            show Go p e below s n0 _ _ _ (T518.setTop (mkF m 314 #[iv pp, iv ff, iv t0, iv t1, iv t2, iv t3, iv cc.toInt32, iv n.toInt32, iv c1.toInt32, rv b491, rv b496, rv l11, rv l12, rv ad] [(.int cc.toInt32)]))
            refine Go.st (fun _ => XS.iconst X518.here C.hx rfl (hb C.hby at_314)) ?_
            show Go p e below s n0 _ _ _ (T518.setTop (mkF m 315 #[iv pp, iv ff, iv t0, iv t1, iv t2, iv t3, iv cc.toInt32, iv n.toInt32, iv c1.toInt32, rv b491, rv b496, rv l11, rv l12, rv ad] [(.int 4), (.int cc.toInt32)]))
            refine Go.icmp_lt C X518 (pc' := 333) at_315 (by decide) (by decide) (fun hc315_524 => ?_) (fun hc315_524 => ?_)
            · show Go p e below s n0 _ _ _ (T518.setTop (mkF m 333 #[iv pp, iv ff, iv t0, iv t1, iv t2, iv t3, iv cc.toInt32, iv n.toInt32, iv c1.toInt32, rv b491, rv b496, rv l11, rv l12, rv ad] []))
              refine Go.st (fun _ => XS.iconst X518.here C.hx rfl (hb C.hby at_333)) ?_
              show Go p e below s n0 _ _ _ (T518.setTop (mkF m 334 #[iv pp, iv ff, iv t0, iv t1, iv t2, iv t3, iv cc.toInt32, iv n.toInt32, iv c1.toInt32, rv b491, rv b496, rv l11, rv l12, rv ad] [(.int 1)]))
              refine Go.st (fun _ => XS.goto X518.here C.hx rfl (pc0 := 334) (pc' := 338) rfl (hb C.hby at_334) (by decide) (by decide)) ?_
              show Go p e below s n0 _ _ _ (T518.setTop (mkF m 338 #[iv pp, iv ff, iv t0, iv t1, iv t2, iv t3, iv cc.toInt32, iv n.toInt32, iv c1.toInt32, rv b491, rv b496, rv l11, rv l12, rv ad] [(.int 1)]))
              exact Go.retZ C X518 (by decide) at_338 rfl (by decide) (by decide)
            · show Go p e below s n0 _ _ _ (T518.setTop (mkF m 318 #[iv pp, iv ff, iv t0, iv t1, iv t2, iv t3, iv cc.toInt32, iv n.toInt32, iv c1.toInt32, rv b491, rv b496, rv l11, rv l12, rv ad] []))
              refine Go.st (fun _ => XS.aload X518.here C.hx rfl (hb C.hby at_318) rfl rfl) ?_
              show Go p e below s n0 _ _ _ (T518.setTop (mkF m 320 #[iv pp, iv ff, iv t0, iv t1, iv t2, iv t3, iv cc.toInt32, iv n.toInt32, iv c1.toInt32, rv b491, rv b496, rv l11, rv l12, rv ad] [(.ref ad)]))
              refine Go.st (fun _ => XS.iconst X518.here C.hx rfl (hb C.hby at_320)) ?_
              show Go p e below s n0 _ _ _ (T518.setTop (mkF m 321 #[iv pp, iv ff, iv t0, iv t1, iv t2, iv t3, iv cc.toInt32, iv n.toInt32, iv c1.toInt32, rv b491, rv b496, rv l11, rv l12, rv ad] [(.int 3), (.ref ad)]))
              refine Go.st (fun _ => XS.iload X518.here C.hx rfl (hb C.hby at_321) rfl) ?_
              show Go p e below s n0 _ _ _ (T518.setTop (mkF m 323 #[iv pp, iv ff, iv t0, iv t1, iv t2, iv t3, iv cc.toInt32, iv n.toInt32, iv c1.toInt32, rv b491, rv b496, rv l11, rv l12, rv ad] [(.int n.toInt32), (.int 3), (.ref ad)]))
              refine Go.st (fun _ => XS.aload X518.here C.hx rfl (hb C.hby at_323) rfl rfl) ?_
              show Go p e below s n0 _ _ _ (T518.setTop (mkF m 325 #[iv pp, iv ff, iv t0, iv t1, iv t2, iv t3, iv cc.toInt32, iv n.toInt32, iv c1.toInt32, rv b491, rv b496, rv l11, rv l12, rv ad] [(.ref b491), (.int n.toInt32), (.int 3), (.ref ad)]))
              refine Go.st (fun _ => XS.aload X518.here C.hx rfl (hb C.hby at_325) rfl rfl) ?_
              show Go p e below s n0 _ _ _ (T518.setTop (mkF m 327 #[iv pp, iv ff, iv t0, iv t1, iv t2, iv t3, iv cc.toInt32, iv n.toInt32, iv c1.toInt32, rv b491, rv b496, rv l11, rv l12, rv ad] [(.ref b496), (.ref b491), (.int n.toInt32), (.int 3), (.ref ad)]))
              refine Go.callS C X518 (W := 0) (argsL := [(.ref ad), (.int 3), (.int n.toInt32), (.ref b491), (.ref b496)]) (rest := []) (wd 12 rfl) (wd 13 rfl) (wd 14 rfl) (wd 15 rfl) (by decide) (con_row l Z a0 hw n0 h518 X518.size ad b491 b496 (3 : Int32) n.toInt32 cc n 3 g0 g1 g2 g3 t0 t1 t2 t3 rs hcc hn (ltNo (a := 4) hcc (by decide) hc315_524) (by omega) (by omega) (by omega) (by omega) rfl rfl O_519 RF_520 A_b491_521 A_b496_522) (by decide) (by decide) rfl (lenOf pd_3 rfl) (Nat.le_of_ble_eq_true rfl) rfl at_327 (by decide) (by decide) (fun T525 h525 v525 X525 hQ525 => ?_)
              obtain ⟨rfl, K525⟩ := hQ525
              have RF_526 : ∀ x, x < cc → AR Z h525 (rs x) .int ((rowP (fsF g0 g1 g2 g3) (tsF t0 t1 t2 t3) n n x).map Value.int) := (fun x hx => (RF_520 x hx).keep K525 nin0)
              show Go p e below s n0 _ _ _ (T525.setTop (mkF m 330 #[iv pp, iv ff, iv t0, iv t1, iv t2, iv t3, iv cc.toInt32, iv n.toInt32, iv c1.toInt32, rv b491, rv b496, rv l11, rv l12, rv ad] [(.int 1)]))
              refine Go.if_eq C X525 (pc' := 337) at_330 (by decide) (by decide) (fun hc => absurd hc (by decide)) (fun _ => ?_)
              show Go p e below s n0 _ _ _ (T525.setTop (mkF m 333 #[iv pp, iv ff, iv t0, iv t1, iv t2, iv t3, iv cc.toInt32, iv n.toInt32, iv c1.toInt32, rv b491, rv b496, rv l11, rv l12, rv ad] []))
              refine Go.st (fun _ => XS.iconst X525.here C.hx rfl (hb C.hby at_333)) ?_
              show Go p e below s n0 _ _ _ (T525.setTop (mkF m 334 #[iv pp, iv ff, iv t0, iv t1, iv t2, iv t3, iv cc.toInt32, iv n.toInt32, iv c1.toInt32, rv b491, rv b496, rv l11, rv l12, rv ad] [(.int 1)]))
              refine Go.st (fun _ => XS.goto X525.here C.hx rfl (pc0 := 334) (pc' := 338) rfl (hb C.hby at_334) (by decide) (by decide)) ?_
              show Go p e below s n0 _ _ _ (T525.setTop (mkF m 338 #[iv pp, iv ff, iv t0, iv t1, iv t2, iv t3, iv cc.toInt32, iv n.toInt32, iv c1.toInt32, rv b491, rv b496, rv l11, rv l12, rv ad] [(.int 1)]))
              exact Go.retZ C X525 (by decide) at_338 rfl (by decide) (by decide)
    have hn5 : n = 0 ∨ n = 1 ∨ n = 2 ∨ n = 3 ∨ n = 4 := by omega
    rcases hn5 with rfl | rfl | rfl | rfl | rfl
    · show Go p e below s n0 _ _ _ (T501.setTop (mkF m 124 #[iv pp, iv ff, iv t0, iv t1, iv t2, iv t3, iv cc.toInt32, iv 0, iv c1.toInt32, rv b491, rv b496, .unset, .unset, .unset] []))
      refine Go.st (fun _ => XS.iload X501.here C.hx rfl (hb C.hby at_124) rfl) ?_
      show Go p e below s n0 _ _ _ (T501.setTop (mkF m 126 #[iv pp, iv ff, iv t0, iv t1, iv t2, iv t3, iv cc.toInt32, iv 0, iv c1.toInt32, rv b491, rv b496, .unset, .unset, .unset] [(.int 0)]))
      refine Go.newP C X501 (aty := .int) (cap := 4) (wd 4 rfl) at_126 (by decide) (by decide) (by decide) (by decide) (by decide) (fun T528 h528 b528 g528 ge528 X528 E528 A528 => ?_)
      have ne_b491_b528 : b491 ≠ b528 := Nat.ne_of_lt (Nat.lt_of_lt_of_le (A_b491_502).lt (Nat.le_of_eq g528))
      have ne_b496_b528 : b496 ≠ b528 := Nat.ne_of_lt (Nat.lt_of_lt_of_le (A_501).lt (Nat.le_of_eq g528))
      have A_b528 : AR Z h528 b528 .int [] := A528
      show Go p e below s n0 _ _ _ (T528.setTop (mkF m 128 #[iv pp, iv ff, iv t0, iv t1, iv t2, iv t3, iv cc.toInt32, iv 0, iv c1.toInt32, rv b491, rv b496, .unset, .unset, .unset] [(.ref b528)]))
      refine Go.st (fun _ => XS.astore X528.here C.hx rfl (hb C.hby at_128) rfl rfl (l' := #[iv pp, iv ff, iv t0, iv t1, iv t2, iv t3, iv cc.toInt32, iv 0, iv c1.toInt32, rv b491, rv b496, rv b528, .unset, .unset]) rfl) ?_
      show Go p e below s n0 _ _ _ (T528.setTop (mkF m 130 #[iv pp, iv ff, iv t0, iv t1, iv t2, iv t3, iv cc.toInt32, iv 0, iv c1.toInt32, rv b491, rv b496, rv b528, .unset, .unset] []))
      refine Go.st (fun _ => XS.iload X528.here C.hx rfl (hb C.hby at_130) rfl) ?_
      show Go p e below s n0 _ _ _ (T528.setTop (mkF m 132 #[iv pp, iv ff, iv t0, iv t1, iv t2, iv t3, iv cc.toInt32, iv 0, iv c1.toInt32, rv b491, rv b496, rv b528, .unset, .unset] [(.int 0)]))
      refine Go.newP C X528 (aty := .int) (cap := 4) (wd 4 rfl) at_132 (by decide) (by decide) (by decide) (by decide) (by decide) (fun T529 h529 b529 g529 ge529 X529 E529 A529 => ?_)
      have ne_b491_b529 : b491 ≠ b529 := Nat.ne_of_lt (Nat.lt_of_lt_of_le ((A_b491_502.ext E528)).lt (Nat.le_of_eq g529))
      have ne_b496_b529 : b496 ≠ b529 := Nat.ne_of_lt (Nat.lt_of_lt_of_le ((A_501.ext E528)).lt (Nat.le_of_eq g529))
      have ne_b528_b529 : b528 ≠ b529 := Nat.ne_of_lt (Nat.lt_of_lt_of_le (A_b528).lt (Nat.le_of_eq g529))
      have A_b529 : AR Z h529 b529 .int [] := A529
      show Go p e below s n0 _ _ _ (T529.setTop (mkF m 134 #[iv pp, iv ff, iv t0, iv t1, iv t2, iv t3, iv cc.toInt32, iv 0, iv c1.toInt32, rv b491, rv b496, rv b528, .unset, .unset] [(.ref b529)]))
      refine Go.st (fun _ => XS.astore X529.here C.hx rfl (hb C.hby at_134) rfl rfl (l' := #[iv pp, iv ff, iv t0, iv t1, iv t2, iv t3, iv cc.toInt32, iv 0, iv c1.toInt32, rv b491, rv b496, rv b528, rv b529, .unset]) rfl) ?_
      show Go p e below s n0 _ _ _ (T529.setTop (mkF m 136 #[iv pp, iv ff, iv t0, iv t1, iv t2, iv t3, iv cc.toInt32, iv 0, iv c1.toInt32, rv b491, rv b496, rv b528, rv b529, .unset] []))
      refine Go.st (fun _ => XS.iload X529.here C.hx rfl (hb C.hby at_136) rfl) ?_
      show Go p e below s n0 _ _ _ (T529.setTop (mkF m 138 #[iv pp, iv ff, iv t0, iv t1, iv t2, iv t3, iv cc.toInt32, iv 0, iv c1.toInt32, rv b491, rv b496, rv b528, rv b529, .unset] [(.int 0)]))
      refine Go.if_le C X529 (pc' := 157) at_138 (by decide) (by decide) (fun _ => ?_) (fun hc => absurd hc (by decide))
      show Go p e below s n0 _ _ _ (T529.setTop (mkF m 157 #[iv pp, iv ff, iv t0, iv t1, iv t2, iv t3, iv cc.toInt32, iv 0, iv c1.toInt32, rv b491, rv b496, rv b528, rv b529, .unset] []))
      refine Go.st (fun _ => XS.iload X529.here C.hx rfl (hb C.hby at_157) rfl) ?_
      show Go p e below s n0 _ _ _ (T529.setTop (mkF m 159 #[iv pp, iv ff, iv t0, iv t1, iv t2, iv t3, iv cc.toInt32, iv 0, iv c1.toInt32, rv b491, rv b496, rv b528, rv b529, .unset] [(.int 0)]))
      refine Go.st (fun _ => XS.iconst X529.here C.hx rfl (hb C.hby at_159)) ?_
      show Go p e below s n0 _ _ _ (T529.setTop (mkF m 160 #[iv pp, iv ff, iv t0, iv t1, iv t2, iv t3, iv cc.toInt32, iv 0, iv c1.toInt32, rv b491, rv b496, rv b528, rv b529, .unset] [(.int 1), (.int 0)]))
      refine Go.icmp_le C X529 (pc' := 179) at_160 (by decide) (by decide) (fun _ => ?_) (fun hc => absurd hc (by decide))
      show Go p e below s n0 _ _ _ (T529.setTop (mkF m 179 #[iv pp, iv ff, iv t0, iv t1, iv t2, iv t3, iv cc.toInt32, iv 0, iv c1.toInt32, rv b491, rv b496, rv b528, rv b529, .unset] []))
      refine Go.st (fun _ => XS.iload X529.here C.hx rfl (hb C.hby at_179) rfl) ?_
      show Go p e below s n0 _ _ _ (T529.setTop (mkF m 181 #[iv pp, iv ff, iv t0, iv t1, iv t2, iv t3, iv cc.toInt32, iv 0, iv c1.toInt32, rv b491, rv b496, rv b528, rv b529, .unset] [(.int 0)]))
      refine Go.st (fun _ => XS.iconst X529.here C.hx rfl (hb C.hby at_181)) ?_
      show Go p e below s n0 _ _ _ (T529.setTop (mkF m 182 #[iv pp, iv ff, iv t0, iv t1, iv t2, iv t3, iv cc.toInt32, iv 0, iv c1.toInt32, rv b491, rv b496, rv b528, rv b529, .unset] [(.int 2), (.int 0)]))
      refine Go.icmp_le C X529 (pc' := 201) at_182 (by decide) (by decide) (fun _ => ?_) (fun hc => absurd hc (by decide))
      show Go p e below s n0 _ _ _ (T529.setTop (mkF m 201 #[iv pp, iv ff, iv t0, iv t1, iv t2, iv t3, iv cc.toInt32, iv 0, iv c1.toInt32, rv b491, rv b496, rv b528, rv b529, .unset] []))
      refine Go.st (fun _ => XS.iload X529.here C.hx rfl (hb C.hby at_201) rfl) ?_
      show Go p e below s n0 _ _ _ (T529.setTop (mkF m 203 #[iv pp, iv ff, iv t0, iv t1, iv t2, iv t3, iv cc.toInt32, iv 0, iv c1.toInt32, rv b491, rv b496, rv b528, rv b529, .unset] [(.int 0)]))
      refine Go.st (fun _ => XS.iconst X529.here C.hx rfl (hb C.hby at_203)) ?_
      show Go p e below s n0 _ _ _ (T529.setTop (mkF m 204 #[iv pp, iv ff, iv t0, iv t1, iv t2, iv t3, iv cc.toInt32, iv 0, iv c1.toInt32, rv b491, rv b496, rv b528, rv b529, .unset] [(.int 3), (.int 0)]))
      refine Go.icmp_le C X529 (pc' := 223) at_204 (by decide) (by decide) (fun _ => ?_) (fun hc => absurd hc (by decide))
      show Go p e below s n0 _ _ _ (T529.setTop (mkF m 223 #[iv pp, iv ff, iv t0, iv t1, iv t2, iv t3, iv cc.toInt32, iv 0, iv c1.toInt32, rv b491, rv b496, rv b528, rv b529, .unset] []))
      refine Go.st (fun _ => XS.iload X529.here C.hx rfl (hb C.hby at_223) rfl) ?_
      show Go p e below s n0 _ _ _ (T529.setTop (mkF m 225 #[iv pp, iv ff, iv t0, iv t1, iv t2, iv t3, iv cc.toInt32, iv 0, iv c1.toInt32, rv b491, rv b496, rv b528, rv b529, .unset] [(.int cc.toInt32)]))
      refine Go.st (fun _ => XS.aload X529.here C.hx rfl (hb C.hby at_225) rfl rfl) ?_
      show Go p e below s n0 _ _ _ (T529.setTop (mkF m 227 #[iv pp, iv ff, iv t0, iv t1, iv t2, iv t3, iv cc.toInt32, iv 0, iv c1.toInt32, rv b491, rv b496, rv b528, rv b529, .unset] [(.ref b528), (.int cc.toInt32)]))
      refine Go.st (fun _ => XS.aload X529.here C.hx rfl (hb C.hby at_227) rfl rfl) ?_
      show Go p e below s n0 _ _ _ (T529.setTop (mkF m 229 #[iv pp, iv ff, iv t0, iv t1, iv t2, iv t3, iv cc.toInt32, iv 0, iv c1.toInt32, rv b491, rv b496, rv b528, rv b529, .unset] [(.ref b529), (.ref b528), (.int cc.toInt32)]))
      refine Go.callS C X529 (W := 0) (argsL := [(.int cc.toInt32), (.ref b528), (.ref b529)]) (rest := []) (wd 5 rfl) (wd 6 rfl) (wd 7 rfl) (wd 8 rfl) (by decide) (con_adj l Z a0 hw n0 h529 X529.size cc 0 (fsF g0 g1 g2 g3) (tsF t0 t1 t2 t3) b528 b529 hcc (by decide) (fun j hj => by omega) (A_b528.ext E529) A_b529) (by decide) (by decide) rfl (lenOf pd_2 rfl) (Nat.le_of_ble_eq_true rfl) rfl at_229 (by decide) (by decide) (fun T534 h534 v534 X534 hQ534 => ?_)
      obtain ⟨ad534, rs534, rfl, O534, RF534, K534⟩ := hQ534
      show Go p e below s n0 _ _ _ (T534.setTop (mkF m 232 #[iv pp, iv ff, iv t0, iv t1, iv t2, iv t3, iv cc.toInt32, iv 0, iv c1.toInt32, rv b491, rv b496, rv b528, rv b529, .unset] [(.ref ad534)]))
      exact JA T534 h534 ad534 b528 b529 rs534 X534 O534 RF534 (((A_b491_502.ext E528).ext E529).keep K534 nin0) (((A_501.ext E528).ext E529).keep K534 nin0)
    · show Go p e below s n0 _ _ _ (T501.setTop (mkF m 124 #[iv pp, iv ff, iv t0, iv t1, iv t2, iv t3, iv cc.toInt32, iv 1, iv c1.toInt32, rv b491, rv b496, .unset, .unset, .unset] []))
      refine Go.st (fun _ => XS.iload X501.here C.hx rfl (hb C.hby at_124) rfl) ?_
      show Go p e below s n0 _ _ _ (T501.setTop (mkF m 126 #[iv pp, iv ff, iv t0, iv t1, iv t2, iv t3, iv cc.toInt32, iv 1, iv c1.toInt32, rv b491, rv b496, .unset, .unset, .unset] [(.int 1)]))
      refine Go.newP C X501 (aty := .int) (cap := 4) (wd 4 rfl) at_126 (by decide) (by decide) (by decide) (by decide) (by decide) (fun T535 h535 b535 g535 ge535 X535 E535 A535 => ?_)
      have ne_b491_b535 : b491 ≠ b535 := Nat.ne_of_lt (Nat.lt_of_lt_of_le (A_b491_502).lt (Nat.le_of_eq g535))
      have ne_b496_b535 : b496 ≠ b535 := Nat.ne_of_lt (Nat.lt_of_lt_of_le (A_501).lt (Nat.le_of_eq g535))
      have A_b535 : AR Z h535 b535 .int [(.int 0)] := A535
      show Go p e below s n0 _ _ _ (T535.setTop (mkF m 128 #[iv pp, iv ff, iv t0, iv t1, iv t2, iv t3, iv cc.toInt32, iv 1, iv c1.toInt32, rv b491, rv b496, .unset, .unset, .unset] [(.ref b535)]))
      refine Go.st (fun _ => XS.astore X535.here C.hx rfl (hb C.hby at_128) rfl rfl (l' := #[iv pp, iv ff, iv t0, iv t1, iv t2, iv t3, iv cc.toInt32, iv 1, iv c1.toInt32, rv b491, rv b496, rv b535, .unset, .unset]) rfl) ?_
      show Go p e below s n0 _ _ _ (T535.setTop (mkF m 130 #[iv pp, iv ff, iv t0, iv t1, iv t2, iv t3, iv cc.toInt32, iv 1, iv c1.toInt32, rv b491, rv b496, rv b535, .unset, .unset] []))
      refine Go.st (fun _ => XS.iload X535.here C.hx rfl (hb C.hby at_130) rfl) ?_
      show Go p e below s n0 _ _ _ (T535.setTop (mkF m 132 #[iv pp, iv ff, iv t0, iv t1, iv t2, iv t3, iv cc.toInt32, iv 1, iv c1.toInt32, rv b491, rv b496, rv b535, .unset, .unset] [(.int 1)]))
      refine Go.newP C X535 (aty := .int) (cap := 4) (wd 4 rfl) at_132 (by decide) (by decide) (by decide) (by decide) (by decide) (fun T536 h536 b536 g536 ge536 X536 E536 A536 => ?_)
      have ne_b491_b536 : b491 ≠ b536 := Nat.ne_of_lt (Nat.lt_of_lt_of_le ((A_b491_502.ext E535)).lt (Nat.le_of_eq g536))
      have ne_b496_b536 : b496 ≠ b536 := Nat.ne_of_lt (Nat.lt_of_lt_of_le ((A_501.ext E535)).lt (Nat.le_of_eq g536))
      have ne_b535_b536 : b535 ≠ b536 := Nat.ne_of_lt (Nat.lt_of_lt_of_le (A_b535).lt (Nat.le_of_eq g536))
      have A_b536 : AR Z h536 b536 .int [(.int 0)] := A536
      show Go p e below s n0 _ _ _ (T536.setTop (mkF m 134 #[iv pp, iv ff, iv t0, iv t1, iv t2, iv t3, iv cc.toInt32, iv 1, iv c1.toInt32, rv b491, rv b496, rv b535, .unset, .unset] [(.ref b536)]))
      refine Go.st (fun _ => XS.astore X536.here C.hx rfl (hb C.hby at_134) rfl rfl (l' := #[iv pp, iv ff, iv t0, iv t1, iv t2, iv t3, iv cc.toInt32, iv 1, iv c1.toInt32, rv b491, rv b496, rv b535, rv b536, .unset]) rfl) ?_
      show Go p e below s n0 _ _ _ (T536.setTop (mkF m 136 #[iv pp, iv ff, iv t0, iv t1, iv t2, iv t3, iv cc.toInt32, iv 1, iv c1.toInt32, rv b491, rv b496, rv b535, rv b536, .unset] []))
      refine Go.st (fun _ => XS.iload X536.here C.hx rfl (hb C.hby at_136) rfl) ?_
      show Go p e below s n0 _ _ _ (T536.setTop (mkF m 138 #[iv pp, iv ff, iv t0, iv t1, iv t2, iv t3, iv cc.toInt32, iv 1, iv c1.toInt32, rv b491, rv b496, rv b535, rv b536, .unset] [(.int 1)]))
      refine Go.if_le C X536 (pc' := 157) at_138 (by decide) (by decide) (fun hc => absurd hc (by decide)) (fun _ => ?_)
      show Go p e below s n0 _ _ _ (T536.setTop (mkF m 141 #[iv pp, iv ff, iv t0, iv t1, iv t2, iv t3, iv cc.toInt32, iv 1, iv c1.toInt32, rv b491, rv b496, rv b535, rv b536, .unset] []))
      refine Go.st (fun _ => XS.aload X536.here C.hx rfl (hb C.hby at_141) rfl rfl) ?_
      show Go p e below s n0 _ _ _ (T536.setTop (mkF m 143 #[iv pp, iv ff, iv t0, iv t1, iv t2, iv t3, iv cc.toInt32, iv 1, iv c1.toInt32, rv b491, rv b496, rv b535, rv b536, .unset] [(.ref b535)]))
      refine Go.st (fun _ => XS.iconst X536.here C.hx rfl (hb C.hby at_143)) ?_
      show Go p e below s n0 _ _ _ (T536.setTop (mkF m 144 #[iv pp, iv ff, iv t0, iv t1, iv t2, iv t3, iv cc.toInt32, iv 1, iv c1.toInt32, rv b491, rv b496, rv b535, rv b536, .unset] [(.int 0), (.ref b535)]))
      refine Go.st (fun _ => XS.aload X536.here C.hx rfl (hb C.hby at_144) rfl rfl) ?_
      show Go p e below s n0 _ _ _ (T536.setTop (mkF m 146 #[iv pp, iv ff, iv t0, iv t1, iv t2, iv t3, iv cc.toInt32, iv 1, iv c1.toInt32, rv b491, rv b496, rv b535, rv b536, .unset] [(.ref b491), (.int 0), (.ref b535)]))
      refine Go.st (fun _ => XS.iconst X536.here C.hx rfl (hb C.hby at_146)) ?_
      show Go p e below s n0 _ _ _ (T536.setTop (mkF m 147 #[iv pp, iv ff, iv t0, iv t1, iv t2, iv t3, iv cc.toInt32, iv 1, iv c1.toInt32, rv b491, rv b496, rv b535, rv b536, .unset] [(.int 0), (.ref b491), (.int 0), (.ref b535)]))
      refine Go.iaload C X536 ((A_b491_502.ext E535).ext E536) (by decide) rfl at_147 ?_
      show Go p e below s n0 _ _ _ (T536.setTop (mkF m 148 #[iv pp, iv ff, iv t0, iv t1, iv t2, iv t3, iv cc.toInt32, iv 1, iv c1.toInt32, rv b491, rv b496, rv b535, rv b536, .unset] [(.int g0.toInt32), (.int 0), (.ref b535)]))
      refine Go.iastore C X536 (A_b535.ext E536) (by decide) (Nat.le_of_ble_eq_true rfl) ge535 at_148 (fun T538 h538 X538 W538 A538 => ?_)
      have A_538 : AR Z h538 b535 .int [(.int g0.toInt32)] := A538
      have A_b491_539 : AR Z h538 b491 .int [(.int g0.toInt32), (.int g1.toInt32), (.int g2.toInt32), (.int g3.toInt32)] := (((A_b491_502.ext E535).ext E536).other W538 ne_b491_b535)
      have A_b496_540 : AR Z h538 b496 .int [(.int t0), (.int t1), (.int t2), (.int t3)] := (((A_501.ext E535).ext E536).other W538 ne_b496_b535)
      have A_b536_541 : AR Z h538 b536 .int [(.int 0)] := (A_b536.other W538 (Ne.symm ne_b535_b536))
      show Go p e below s n0 _ _ _ (T538.setTop (mkF m 149 #[iv pp, iv ff, iv t0, iv t1, iv t2, iv t3, iv cc.toInt32, iv 1, iv c1.toInt32, rv b491, rv b496, rv b535, rv b536, .unset] []))
      refine Go.st (fun _ => XS.aload X538.here C.hx rfl (hb C.hby at_149) rfl rfl) ?_
      show Go p e below s n0 _ _ _ (T538.setTop (mkF m 151 #[iv pp, iv ff, iv t0, iv t1, iv t2, iv t3, iv cc.toInt32, iv 1, iv c1.toInt32, rv b491, rv b496, rv b535, rv b536, .unset] [(.ref b536)]))
      refine Go.st (fun _ => XS.iconst X538.here C.hx rfl (hb C.hby at_151)) ?_
      show Go p e below s n0 _ _ _ (T538.setTop (mkF m 152 #[iv pp, iv ff, iv t0, iv t1, iv t2, iv t3, iv cc.toInt32, iv 1, iv c1.toInt32, rv b491, rv b496, rv b535, rv b536, .unset] [(.int 0), (.ref b536)]))
      refine Go.st (fun _ => XS.aload X538.here C.hx rfl (hb C.hby at_152) rfl rfl) ?_
      show Go p e below s n0 _ _ _ (T538.setTop (mkF m 154 #[iv pp, iv ff, iv t0, iv t1, iv t2, iv t3, iv cc.toInt32, iv 1, iv c1.toInt32, rv b491, rv b496, rv b535, rv b536, .unset] [(.ref b496), (.int 0), (.ref b536)]))
      refine Go.st (fun _ => XS.iconst X538.here C.hx rfl (hb C.hby at_154)) ?_
      show Go p e below s n0 _ _ _ (T538.setTop (mkF m 155 #[iv pp, iv ff, iv t0, iv t1, iv t2, iv t3, iv cc.toInt32, iv 1, iv c1.toInt32, rv b491, rv b496, rv b535, rv b536, .unset] [(.int 0), (.ref b496), (.int 0), (.ref b536)]))
      refine Go.iaload C X538 A_b496_540 (by decide) rfl at_155 ?_
      show Go p e below s n0 _ _ _ (T538.setTop (mkF m 156 #[iv pp, iv ff, iv t0, iv t1, iv t2, iv t3, iv cc.toInt32, iv 1, iv c1.toInt32, rv b491, rv b496, rv b535, rv b536, .unset] [(.int t0), (.int 0), (.ref b536)]))
      refine Go.iastore C X538 A_b536_541 (by decide) (Nat.le_of_ble_eq_true rfl) ge536 at_156 (fun T542 h542 X542 W542 A542 => ?_)
      have A_542 : AR Z h542 b536 .int [(.int t0)] := A542
      show Go p e below s n0 _ _ _ (T542.setTop (mkF m 157 #[iv pp, iv ff, iv t0, iv t1, iv t2, iv t3, iv cc.toInt32, iv 1, iv c1.toInt32, rv b491, rv b496, rv b535, rv b536, .unset] []))
      refine Go.st (fun _ => XS.iload X542.here C.hx rfl (hb C.hby at_157) rfl) ?_
      show Go p e below s n0 _ _ _ (T542.setTop (mkF m 159 #[iv pp, iv ff, iv t0, iv t1, iv t2, iv t3, iv cc.toInt32, iv 1, iv c1.toInt32, rv b491, rv b496, rv b535, rv b536, .unset] [(.int 1)]))
      refine Go.st (fun _ => XS.iconst X542.here C.hx rfl (hb C.hby at_159)) ?_
      show Go p e below s n0 _ _ _ (T542.setTop (mkF m 160 #[iv pp, iv ff, iv t0, iv t1, iv t2, iv t3, iv cc.toInt32, iv 1, iv c1.toInt32, rv b491, rv b496, rv b535, rv b536, .unset] [(.int 1), (.int 1)]))
      refine Go.icmp_le C X542 (pc' := 179) at_160 (by decide) (by decide) (fun _ => ?_) (fun hc => absurd hc (by decide))
      show Go p e below s n0 _ _ _ (T542.setTop (mkF m 179 #[iv pp, iv ff, iv t0, iv t1, iv t2, iv t3, iv cc.toInt32, iv 1, iv c1.toInt32, rv b491, rv b496, rv b535, rv b536, .unset] []))
      refine Go.st (fun _ => XS.iload X542.here C.hx rfl (hb C.hby at_179) rfl) ?_
      show Go p e below s n0 _ _ _ (T542.setTop (mkF m 181 #[iv pp, iv ff, iv t0, iv t1, iv t2, iv t3, iv cc.toInt32, iv 1, iv c1.toInt32, rv b491, rv b496, rv b535, rv b536, .unset] [(.int 1)]))
      refine Go.st (fun _ => XS.iconst X542.here C.hx rfl (hb C.hby at_181)) ?_
      show Go p e below s n0 _ _ _ (T542.setTop (mkF m 182 #[iv pp, iv ff, iv t0, iv t1, iv t2, iv t3, iv cc.toInt32, iv 1, iv c1.toInt32, rv b491, rv b496, rv b535, rv b536, .unset] [(.int 2), (.int 1)]))
      refine Go.icmp_le C X542 (pc' := 201) at_182 (by decide) (by decide) (fun _ => ?_) (fun hc => absurd hc (by decide))
      show Go p e below s n0 _ _ _ (T542.setTop (mkF m 201 #[iv pp, iv ff, iv t0, iv t1, iv t2, iv t3, iv cc.toInt32, iv 1, iv c1.toInt32, rv b491, rv b496, rv b535, rv b536, .unset] []))
      refine Go.st (fun _ => XS.iload X542.here C.hx rfl (hb C.hby at_201) rfl) ?_
      show Go p e below s n0 _ _ _ (T542.setTop (mkF m 203 #[iv pp, iv ff, iv t0, iv t1, iv t2, iv t3, iv cc.toInt32, iv 1, iv c1.toInt32, rv b491, rv b496, rv b535, rv b536, .unset] [(.int 1)]))
      refine Go.st (fun _ => XS.iconst X542.here C.hx rfl (hb C.hby at_203)) ?_
      show Go p e below s n0 _ _ _ (T542.setTop (mkF m 204 #[iv pp, iv ff, iv t0, iv t1, iv t2, iv t3, iv cc.toInt32, iv 1, iv c1.toInt32, rv b491, rv b496, rv b535, rv b536, .unset] [(.int 3), (.int 1)]))
      refine Go.icmp_le C X542 (pc' := 223) at_204 (by decide) (by decide) (fun _ => ?_) (fun hc => absurd hc (by decide))
      show Go p e below s n0 _ _ _ (T542.setTop (mkF m 223 #[iv pp, iv ff, iv t0, iv t1, iv t2, iv t3, iv cc.toInt32, iv 1, iv c1.toInt32, rv b491, rv b496, rv b535, rv b536, .unset] []))
      refine Go.st (fun _ => XS.iload X542.here C.hx rfl (hb C.hby at_223) rfl) ?_
      show Go p e below s n0 _ _ _ (T542.setTop (mkF m 225 #[iv pp, iv ff, iv t0, iv t1, iv t2, iv t3, iv cc.toInt32, iv 1, iv c1.toInt32, rv b491, rv b496, rv b535, rv b536, .unset] [(.int cc.toInt32)]))
      refine Go.st (fun _ => XS.aload X542.here C.hx rfl (hb C.hby at_225) rfl rfl) ?_
      show Go p e below s n0 _ _ _ (T542.setTop (mkF m 227 #[iv pp, iv ff, iv t0, iv t1, iv t2, iv t3, iv cc.toInt32, iv 1, iv c1.toInt32, rv b491, rv b496, rv b535, rv b536, .unset] [(.ref b535), (.int cc.toInt32)]))
      refine Go.st (fun _ => XS.aload X542.here C.hx rfl (hb C.hby at_227) rfl rfl) ?_
      show Go p e below s n0 _ _ _ (T542.setTop (mkF m 229 #[iv pp, iv ff, iv t0, iv t1, iv t2, iv t3, iv cc.toInt32, iv 1, iv c1.toInt32, rv b491, rv b496, rv b535, rv b536, .unset] [(.ref b536), (.ref b535), (.int cc.toInt32)]))
      refine Go.callS C X542 (W := 0) (argsL := [(.int cc.toInt32), (.ref b535), (.ref b536)]) (rest := []) (wd 5 rfl) (wd 6 rfl) (wd 7 rfl) (wd 8 rfl) (by decide) (con_adj l Z a0 hw n0 h542 X542.size cc 1 (fsF g0 g1 g2 g3) (tsF t0 t1 t2 t3) b535 b536 hcc (by decide) (fun j hj => by have e := hc1e (fun u => by have := hcn u; omega); match j, hj with | 0, _ => exact (by rw [← e]; exact hg0)) (A_538.other W542 ne_b535_b536) A_542) (by decide) (by decide) rfl (lenOf pd_2 rfl) (Nat.le_of_ble_eq_true rfl) rfl at_229 (by decide) (by decide) (fun T546 h546 v546 X546 hQ546 => ?_)
      obtain ⟨ad546, rs546, rfl, O546, RF546, K546⟩ := hQ546
      show Go p e below s n0 _ _ _ (T546.setTop (mkF m 232 #[iv pp, iv ff, iv t0, iv t1, iv t2, iv t3, iv cc.toInt32, iv 1, iv c1.toInt32, rv b491, rv b496, rv b535, rv b536, .unset] [(.ref ad546)]))
      exact JA T546 h546 ad546 b535 b536 rs546 X546 O546 RF546 ((A_b491_539.other W542 ne_b491_b536).keep K546 nin0) ((A_b496_540.other W542 ne_b496_b536).keep K546 nin0)
    · show Go p e below s n0 _ _ _ (T501.setTop (mkF m 124 #[iv pp, iv ff, iv t0, iv t1, iv t2, iv t3, iv cc.toInt32, iv 2, iv c1.toInt32, rv b491, rv b496, .unset, .unset, .unset] []))
      refine Go.st (fun _ => XS.iload X501.here C.hx rfl (hb C.hby at_124) rfl) ?_
      show Go p e below s n0 _ _ _ (T501.setTop (mkF m 126 #[iv pp, iv ff, iv t0, iv t1, iv t2, iv t3, iv cc.toInt32, iv 2, iv c1.toInt32, rv b491, rv b496, .unset, .unset, .unset] [(.int 2)]))
      refine Go.newP C X501 (aty := .int) (cap := 4) (wd 4 rfl) at_126 (by decide) (by decide) (by decide) (by decide) (by decide) (fun T547 h547 b547 g547 ge547 X547 E547 A547 => ?_)
      have ne_b491_b547 : b491 ≠ b547 := Nat.ne_of_lt (Nat.lt_of_lt_of_le (A_b491_502).lt (Nat.le_of_eq g547))
      have ne_b496_b547 : b496 ≠ b547 := Nat.ne_of_lt (Nat.lt_of_lt_of_le (A_501).lt (Nat.le_of_eq g547))
      have A_b547 : AR Z h547 b547 .int [(.int 0), (.int 0)] := A547
      show Go p e below s n0 _ _ _ (T547.setTop (mkF m 128 #[iv pp, iv ff, iv t0, iv t1, iv t2, iv t3, iv cc.toInt32, iv 2, iv c1.toInt32, rv b491, rv b496, .unset, .unset, .unset] [(.ref b547)]))
      refine Go.st (fun _ => XS.astore X547.here C.hx rfl (hb C.hby at_128) rfl rfl (l' := #[iv pp, iv ff, iv t0, iv t1, iv t2, iv t3, iv cc.toInt32, iv 2, iv c1.toInt32, rv b491, rv b496, rv b547, .unset, .unset]) rfl) ?_
      show Go p e below s n0 _ _ _ (T547.setTop (mkF m 130 #[iv pp, iv ff, iv t0, iv t1, iv t2, iv t3, iv cc.toInt32, iv 2, iv c1.toInt32, rv b491, rv b496, rv b547, .unset, .unset] []))
      refine Go.st (fun _ => XS.iload X547.here C.hx rfl (hb C.hby at_130) rfl) ?_
      show Go p e below s n0 _ _ _ (T547.setTop (mkF m 132 #[iv pp, iv ff, iv t0, iv t1, iv t2, iv t3, iv cc.toInt32, iv 2, iv c1.toInt32, rv b491, rv b496, rv b547, .unset, .unset] [(.int 2)]))
      refine Go.newP C X547 (aty := .int) (cap := 4) (wd 4 rfl) at_132 (by decide) (by decide) (by decide) (by decide) (by decide) (fun T548 h548 b548 g548 ge548 X548 E548 A548 => ?_)
      have ne_b491_b548 : b491 ≠ b548 := Nat.ne_of_lt (Nat.lt_of_lt_of_le ((A_b491_502.ext E547)).lt (Nat.le_of_eq g548))
      have ne_b496_b548 : b496 ≠ b548 := Nat.ne_of_lt (Nat.lt_of_lt_of_le ((A_501.ext E547)).lt (Nat.le_of_eq g548))
      have ne_b547_b548 : b547 ≠ b548 := Nat.ne_of_lt (Nat.lt_of_lt_of_le (A_b547).lt (Nat.le_of_eq g548))
      have A_b548 : AR Z h548 b548 .int [(.int 0), (.int 0)] := A548
      show Go p e below s n0 _ _ _ (T548.setTop (mkF m 134 #[iv pp, iv ff, iv t0, iv t1, iv t2, iv t3, iv cc.toInt32, iv 2, iv c1.toInt32, rv b491, rv b496, rv b547, .unset, .unset] [(.ref b548)]))
      refine Go.st (fun _ => XS.astore X548.here C.hx rfl (hb C.hby at_134) rfl rfl (l' := #[iv pp, iv ff, iv t0, iv t1, iv t2, iv t3, iv cc.toInt32, iv 2, iv c1.toInt32, rv b491, rv b496, rv b547, rv b548, .unset]) rfl) ?_
      show Go p e below s n0 _ _ _ (T548.setTop (mkF m 136 #[iv pp, iv ff, iv t0, iv t1, iv t2, iv t3, iv cc.toInt32, iv 2, iv c1.toInt32, rv b491, rv b496, rv b547, rv b548, .unset] []))
      refine Go.st (fun _ => XS.iload X548.here C.hx rfl (hb C.hby at_136) rfl) ?_
      show Go p e below s n0 _ _ _ (T548.setTop (mkF m 138 #[iv pp, iv ff, iv t0, iv t1, iv t2, iv t3, iv cc.toInt32, iv 2, iv c1.toInt32, rv b491, rv b496, rv b547, rv b548, .unset] [(.int 2)]))
      refine Go.if_le C X548 (pc' := 157) at_138 (by decide) (by decide) (fun hc => absurd hc (by decide)) (fun _ => ?_)
      show Go p e below s n0 _ _ _ (T548.setTop (mkF m 141 #[iv pp, iv ff, iv t0, iv t1, iv t2, iv t3, iv cc.toInt32, iv 2, iv c1.toInt32, rv b491, rv b496, rv b547, rv b548, .unset] []))
      refine Go.st (fun _ => XS.aload X548.here C.hx rfl (hb C.hby at_141) rfl rfl) ?_
      show Go p e below s n0 _ _ _ (T548.setTop (mkF m 143 #[iv pp, iv ff, iv t0, iv t1, iv t2, iv t3, iv cc.toInt32, iv 2, iv c1.toInt32, rv b491, rv b496, rv b547, rv b548, .unset] [(.ref b547)]))
      refine Go.st (fun _ => XS.iconst X548.here C.hx rfl (hb C.hby at_143)) ?_
      show Go p e below s n0 _ _ _ (T548.setTop (mkF m 144 #[iv pp, iv ff, iv t0, iv t1, iv t2, iv t3, iv cc.toInt32, iv 2, iv c1.toInt32, rv b491, rv b496, rv b547, rv b548, .unset] [(.int 0), (.ref b547)]))
      refine Go.st (fun _ => XS.aload X548.here C.hx rfl (hb C.hby at_144) rfl rfl) ?_
      show Go p e below s n0 _ _ _ (T548.setTop (mkF m 146 #[iv pp, iv ff, iv t0, iv t1, iv t2, iv t3, iv cc.toInt32, iv 2, iv c1.toInt32, rv b491, rv b496, rv b547, rv b548, .unset] [(.ref b491), (.int 0), (.ref b547)]))
      refine Go.st (fun _ => XS.iconst X548.here C.hx rfl (hb C.hby at_146)) ?_
      show Go p e below s n0 _ _ _ (T548.setTop (mkF m 147 #[iv pp, iv ff, iv t0, iv t1, iv t2, iv t3, iv cc.toInt32, iv 2, iv c1.toInt32, rv b491, rv b496, rv b547, rv b548, .unset] [(.int 0), (.ref b491), (.int 0), (.ref b547)]))
      refine Go.iaload C X548 ((A_b491_502.ext E547).ext E548) (by decide) rfl at_147 ?_
      show Go p e below s n0 _ _ _ (T548.setTop (mkF m 148 #[iv pp, iv ff, iv t0, iv t1, iv t2, iv t3, iv cc.toInt32, iv 2, iv c1.toInt32, rv b491, rv b496, rv b547, rv b548, .unset] [(.int g0.toInt32), (.int 0), (.ref b547)]))
      refine Go.iastore C X548 (A_b547.ext E548) (by decide) (Nat.le_of_ble_eq_true rfl) ge547 at_148 (fun T550 h550 X550 W550 A550 => ?_)
      have A_550 : AR Z h550 b547 .int [(.int g0.toInt32), (.int 0)] := A550
      have A_b491_551 : AR Z h550 b491 .int [(.int g0.toInt32), (.int g1.toInt32), (.int g2.toInt32), (.int g3.toInt32)] := (((A_b491_502.ext E547).ext E548).other W550 ne_b491_b547)
      have A_b496_552 : AR Z h550 b496 .int [(.int t0), (.int t1), (.int t2), (.int t3)] := (((A_501.ext E547).ext E548).other W550 ne_b496_b547)
      have A_b548_553 : AR Z h550 b548 .int [(.int 0), (.int 0)] := (A_b548.other W550 (Ne.symm ne_b547_b548))
      show Go p e below s n0 _ _ _ (T550.setTop (mkF m 149 #[iv pp, iv ff, iv t0, iv t1, iv t2, iv t3, iv cc.toInt32, iv 2, iv c1.toInt32, rv b491, rv b496, rv b547, rv b548, .unset] []))
      refine Go.st (fun _ => XS.aload X550.here C.hx rfl (hb C.hby at_149) rfl rfl) ?_
      show Go p e below s n0 _ _ _ (T550.setTop (mkF m 151 #[iv pp, iv ff, iv t0, iv t1, iv t2, iv t3, iv cc.toInt32, iv 2, iv c1.toInt32, rv b491, rv b496, rv b547, rv b548, .unset] [(.ref b548)]))
      refine Go.st (fun _ => XS.iconst X550.here C.hx rfl (hb C.hby at_151)) ?_
      show Go p e below s n0 _ _ _ (T550.setTop (mkF m 152 #[iv pp, iv ff, iv t0, iv t1, iv t2, iv t3, iv cc.toInt32, iv 2, iv c1.toInt32, rv b491, rv b496, rv b547, rv b548, .unset] [(.int 0), (.ref b548)]))
      refine Go.st (fun _ => XS.aload X550.here C.hx rfl (hb C.hby at_152) rfl rfl) ?_
      show Go p e below s n0 _ _ _ (T550.setTop (mkF m 154 #[iv pp, iv ff, iv t0, iv t1, iv t2, iv t3, iv cc.toInt32, iv 2, iv c1.toInt32, rv b491, rv b496, rv b547, rv b548, .unset] [(.ref b496), (.int 0), (.ref b548)]))
      refine Go.st (fun _ => XS.iconst X550.here C.hx rfl (hb C.hby at_154)) ?_
      show Go p e below s n0 _ _ _ (T550.setTop (mkF m 155 #[iv pp, iv ff, iv t0, iv t1, iv t2, iv t3, iv cc.toInt32, iv 2, iv c1.toInt32, rv b491, rv b496, rv b547, rv b548, .unset] [(.int 0), (.ref b496), (.int 0), (.ref b548)]))
      refine Go.iaload C X550 A_b496_552 (by decide) rfl at_155 ?_
      show Go p e below s n0 _ _ _ (T550.setTop (mkF m 156 #[iv pp, iv ff, iv t0, iv t1, iv t2, iv t3, iv cc.toInt32, iv 2, iv c1.toInt32, rv b491, rv b496, rv b547, rv b548, .unset] [(.int t0), (.int 0), (.ref b548)]))
      refine Go.iastore C X550 A_b548_553 (by decide) (Nat.le_of_ble_eq_true rfl) ge548 at_156 (fun T554 h554 X554 W554 A554 => ?_)
      have A_554 : AR Z h554 b548 .int [(.int t0), (.int 0)] := A554
      show Go p e below s n0 _ _ _ (T554.setTop (mkF m 157 #[iv pp, iv ff, iv t0, iv t1, iv t2, iv t3, iv cc.toInt32, iv 2, iv c1.toInt32, rv b491, rv b496, rv b547, rv b548, .unset] []))
      refine Go.st (fun _ => XS.iload X554.here C.hx rfl (hb C.hby at_157) rfl) ?_
      show Go p e below s n0 _ _ _ (T554.setTop (mkF m 159 #[iv pp, iv ff, iv t0, iv t1, iv t2, iv t3, iv cc.toInt32, iv 2, iv c1.toInt32, rv b491, rv b496, rv b547, rv b548, .unset] [(.int 2)]))
      refine Go.st (fun _ => XS.iconst X554.here C.hx rfl (hb C.hby at_159)) ?_
      show Go p e below s n0 _ _ _ (T554.setTop (mkF m 160 #[iv pp, iv ff, iv t0, iv t1, iv t2, iv t3, iv cc.toInt32, iv 2, iv c1.toInt32, rv b491, rv b496, rv b547, rv b548, .unset] [(.int 1), (.int 2)]))
      refine Go.icmp_le C X554 (pc' := 179) at_160 (by decide) (by decide) (fun hc => absurd hc (by decide)) (fun _ => ?_)
      show Go p e below s n0 _ _ _ (T554.setTop (mkF m 163 #[iv pp, iv ff, iv t0, iv t1, iv t2, iv t3, iv cc.toInt32, iv 2, iv c1.toInt32, rv b491, rv b496, rv b547, rv b548, .unset] []))
      refine Go.st (fun _ => XS.aload X554.here C.hx rfl (hb C.hby at_163) rfl rfl) ?_
      show Go p e below s n0 _ _ _ (T554.setTop (mkF m 165 #[iv pp, iv ff, iv t0, iv t1, iv t2, iv t3, iv cc.toInt32, iv 2, iv c1.toInt32, rv b491, rv b496, rv b547, rv b548, .unset] [(.ref b547)]))
      refine Go.st (fun _ => XS.iconst X554.here C.hx rfl (hb C.hby at_165)) ?_
      show Go p e below s n0 _ _ _ (T554.setTop (mkF m 166 #[iv pp, iv ff, iv t0, iv t1, iv t2, iv t3, iv cc.toInt32, iv 2, iv c1.toInt32, rv b491, rv b496, rv b547, rv b548, .unset] [(.int 1), (.ref b547)]))
      refine Go.st (fun _ => XS.aload X554.here C.hx rfl (hb C.hby at_166) rfl rfl) ?_
      show Go p e below s n0 _ _ _ (T554.setTop (mkF m 168 #[iv pp, iv ff, iv t0, iv t1, iv t2, iv t3, iv cc.toInt32, iv 2, iv c1.toInt32, rv b491, rv b496, rv b547, rv b548, .unset] [(.ref b491), (.int 1), (.ref b547)]))
      refine Go.st (fun _ => XS.iconst X554.here C.hx rfl (hb C.hby at_168)) ?_
      show Go p e below s n0 _ _ _ (T554.setTop (mkF m 169 #[iv pp, iv ff, iv t0, iv t1, iv t2, iv t3, iv cc.toInt32, iv 2, iv c1.toInt32, rv b491, rv b496, rv b547, rv b548, .unset] [(.int 1), (.ref b491), (.int 1), (.ref b547)]))
      refine Go.iaload C X554 (A_b491_551.other W554 ne_b491_b548) (by decide) rfl at_169 ?_
      show Go p e below s n0 _ _ _ (T554.setTop (mkF m 170 #[iv pp, iv ff, iv t0, iv t1, iv t2, iv t3, iv cc.toInt32, iv 2, iv c1.toInt32, rv b491, rv b496, rv b547, rv b548, .unset] [(.int g1.toInt32), (.int 1), (.ref b547)]))
      refine Go.iastore C X554 (A_550.other W554 ne_b547_b548) (by decide) (Nat.le_of_ble_eq_true rfl) ge547 at_170 (fun T556 h556 X556 W556 A556 => ?_)
      have A_556 : AR Z h556 b547 .int [(.int g0.toInt32), (.int g1.toInt32)] := A556
      have A_b491_557 : AR Z h556 b491 .int [(.int g0.toInt32), (.int g1.toInt32), (.int g2.toInt32), (.int g3.toInt32)] := ((A_b491_551.other W554 ne_b491_b548).other W556 ne_b491_b547)
      have A_b496_558 : AR Z h556 b496 .int [(.int t0), (.int t1), (.int t2), (.int t3)] := ((A_b496_552.other W554 ne_b496_b548).other W556 ne_b496_b547)
      have A_b548_559 : AR Z h556 b548 .int [(.int t0), (.int 0)] := (A_554.other W556 (Ne.symm ne_b547_b548))
      show Go p e below s n0 _ _ _ (T556.setTop (mkF m 171 #[iv pp, iv ff, iv t0, iv t1, iv t2, iv t3, iv cc.toInt32, iv 2, iv c1.toInt32, rv b491, rv b496, rv b547, rv b548, .unset] []))
      refine Go.st (fun _ => XS.aload X556.here C.hx rfl (hb C.hby at_171) rfl rfl) ?_
      show Go p e below s n0 _ _ _ (T556.setTop (mkF m 173 #[iv pp, iv ff, iv t0, iv t1, iv t2, iv t3, iv cc.toInt32, iv 2, iv c1.toInt32, rv b491, rv b496, rv b547, rv b548, .unset] [(.ref b548)]))
      refine Go.st (fun _ => XS.iconst X556.here C.hx rfl (hb C.hby at_173)) ?_
      show Go p e below s n0 _ _ _ (T556.setTop (mkF m 174 #[iv pp, iv ff, iv t0, iv t1, iv t2, iv t3, iv cc.toInt32, iv 2, iv c1.toInt32, rv b491, rv b496, rv b547, rv b548, .unset] [(.int 1), (.ref b548)]))
      refine Go.st (fun _ => XS.aload X556.here C.hx rfl (hb C.hby at_174) rfl rfl) ?_
      show Go p e below s n0 _ _ _ (T556.setTop (mkF m 176 #[iv pp, iv ff, iv t0, iv t1, iv t2, iv t3, iv cc.toInt32, iv 2, iv c1.toInt32, rv b491, rv b496, rv b547, rv b548, .unset] [(.ref b496), (.int 1), (.ref b548)]))
      refine Go.st (fun _ => XS.iconst X556.here C.hx rfl (hb C.hby at_176)) ?_
      show Go p e below s n0 _ _ _ (T556.setTop (mkF m 177 #[iv pp, iv ff, iv t0, iv t1, iv t2, iv t3, iv cc.toInt32, iv 2, iv c1.toInt32, rv b491, rv b496, rv b547, rv b548, .unset] [(.int 1), (.ref b496), (.int 1), (.ref b548)]))
      refine Go.iaload C X556 A_b496_558 (by decide) rfl at_177 ?_
      show Go p e below s n0 _ _ _ (T556.setTop (mkF m 178 #[iv pp, iv ff, iv t0, iv t1, iv t2, iv t3, iv cc.toInt32, iv 2, iv c1.toInt32, rv b491, rv b496, rv b547, rv b548, .unset] [(.int t1), (.int 1), (.ref b548)]))
      refine Go.iastore C X556 A_b548_559 (by decide) (Nat.le_of_ble_eq_true rfl) ge548 at_178 (fun T560 h560 X560 W560 A560 => ?_)
      have A_560 : AR Z h560 b548 .int [(.int t0), (.int t1)] := A560
      show Go p e below s n0 _ _ _ (T560.setTop (mkF m 179 #[iv pp, iv ff, iv t0, iv t1, iv t2, iv t3, iv cc.toInt32, iv 2, iv c1.toInt32, rv b491, rv b496, rv b547, rv b548, .unset] []))
      refine Go.st (fun _ => XS.iload X560.here C.hx rfl (hb C.hby at_179) rfl) ?_
      show Go p e below s n0 _ _ _ (T560.setTop (mkF m 181 #[iv pp, iv ff, iv t0, iv t1, iv t2, iv t3, iv cc.toInt32, iv 2, iv c1.toInt32, rv b491, rv b496, rv b547, rv b548, .unset] [(.int 2)]))
      refine Go.st (fun _ => XS.iconst X560.here C.hx rfl (hb C.hby at_181)) ?_
      show Go p e below s n0 _ _ _ (T560.setTop (mkF m 182 #[iv pp, iv ff, iv t0, iv t1, iv t2, iv t3, iv cc.toInt32, iv 2, iv c1.toInt32, rv b491, rv b496, rv b547, rv b548, .unset] [(.int 2), (.int 2)]))
      refine Go.icmp_le C X560 (pc' := 201) at_182 (by decide) (by decide) (fun _ => ?_) (fun hc => absurd hc (by decide))
      show Go p e below s n0 _ _ _ (T560.setTop (mkF m 201 #[iv pp, iv ff, iv t0, iv t1, iv t2, iv t3, iv cc.toInt32, iv 2, iv c1.toInt32, rv b491, rv b496, rv b547, rv b548, .unset] []))
      refine Go.st (fun _ => XS.iload X560.here C.hx rfl (hb C.hby at_201) rfl) ?_
      show Go p e below s n0 _ _ _ (T560.setTop (mkF m 203 #[iv pp, iv ff, iv t0, iv t1, iv t2, iv t3, iv cc.toInt32, iv 2, iv c1.toInt32, rv b491, rv b496, rv b547, rv b548, .unset] [(.int 2)]))
      refine Go.st (fun _ => XS.iconst X560.here C.hx rfl (hb C.hby at_203)) ?_
      show Go p e below s n0 _ _ _ (T560.setTop (mkF m 204 #[iv pp, iv ff, iv t0, iv t1, iv t2, iv t3, iv cc.toInt32, iv 2, iv c1.toInt32, rv b491, rv b496, rv b547, rv b548, .unset] [(.int 3), (.int 2)]))
      refine Go.icmp_le C X560 (pc' := 223) at_204 (by decide) (by decide) (fun _ => ?_) (fun hc => absurd hc (by decide))
      show Go p e below s n0 _ _ _ (T560.setTop (mkF m 223 #[iv pp, iv ff, iv t0, iv t1, iv t2, iv t3, iv cc.toInt32, iv 2, iv c1.toInt32, rv b491, rv b496, rv b547, rv b548, .unset] []))
      refine Go.st (fun _ => XS.iload X560.here C.hx rfl (hb C.hby at_223) rfl) ?_
      show Go p e below s n0 _ _ _ (T560.setTop (mkF m 225 #[iv pp, iv ff, iv t0, iv t1, iv t2, iv t3, iv cc.toInt32, iv 2, iv c1.toInt32, rv b491, rv b496, rv b547, rv b548, .unset] [(.int cc.toInt32)]))
      refine Go.st (fun _ => XS.aload X560.here C.hx rfl (hb C.hby at_225) rfl rfl) ?_
      show Go p e below s n0 _ _ _ (T560.setTop (mkF m 227 #[iv pp, iv ff, iv t0, iv t1, iv t2, iv t3, iv cc.toInt32, iv 2, iv c1.toInt32, rv b491, rv b496, rv b547, rv b548, .unset] [(.ref b547), (.int cc.toInt32)]))
      refine Go.st (fun _ => XS.aload X560.here C.hx rfl (hb C.hby at_227) rfl rfl) ?_
      show Go p e below s n0 _ _ _ (T560.setTop (mkF m 229 #[iv pp, iv ff, iv t0, iv t1, iv t2, iv t3, iv cc.toInt32, iv 2, iv c1.toInt32, rv b491, rv b496, rv b547, rv b548, .unset] [(.ref b548), (.ref b547), (.int cc.toInt32)]))
      refine Go.callS C X560 (W := 0) (argsL := [(.int cc.toInt32), (.ref b547), (.ref b548)]) (rest := []) (wd 5 rfl) (wd 6 rfl) (wd 7 rfl) (wd 8 rfl) (by decide) (con_adj l Z a0 hw n0 h560 X560.size cc 2 (fsF g0 g1 g2 g3) (tsF t0 t1 t2 t3) b547 b548 hcc (by decide) (fun j hj => by have e := hc1e (fun u => by have := hcn u; omega); match j, hj with | 0, _ => exact (by rw [← e]; exact hg0) | 1, _ => exact (by rw [← e]; exact hg1)) (A_556.other W560 ne_b547_b548) A_560) (by decide) (by decide) rfl (lenOf pd_2 rfl) (Nat.le_of_ble_eq_true rfl) rfl at_229 (by decide) (by decide) (fun T563 h563 v563 X563 hQ563 => ?_)
      obtain ⟨ad563, rs563, rfl, O563, RF563, K563⟩ := hQ563
      show Go p e below s n0 _ _ _ (T563.setTop (mkF m 232 #[iv pp, iv ff, iv t0, iv t1, iv t2, iv t3, iv cc.toInt32, iv 2, iv c1.toInt32, rv b491, rv b496, rv b547, rv b548, .unset] [(.ref ad563)]))
      exact JA T563 h563 ad563 b547 b548 rs563 X563 O563 RF563 ((A_b491_557.other W560 ne_b491_b548).keep K563 nin0) ((A_b496_558.other W560 ne_b496_b548).keep K563 nin0)
    · show Go p e below s n0 _ _ _ (T501.setTop (mkF m 124 #[iv pp, iv ff, iv t0, iv t1, iv t2, iv t3, iv cc.toInt32, iv 3, iv c1.toInt32, rv b491, rv b496, .unset, .unset, .unset] []))
      refine Go.st (fun _ => XS.iload X501.here C.hx rfl (hb C.hby at_124) rfl) ?_
      show Go p e below s n0 _ _ _ (T501.setTop (mkF m 126 #[iv pp, iv ff, iv t0, iv t1, iv t2, iv t3, iv cc.toInt32, iv 3, iv c1.toInt32, rv b491, rv b496, .unset, .unset, .unset] [(.int 3)]))
      refine Go.newP C X501 (aty := .int) (cap := 4) (wd 4 rfl) at_126 (by decide) (by decide) (by decide) (by decide) (by decide) (fun T564 h564 b564 g564 ge564 X564 E564 A564 => ?_)
      have ne_b491_b564 : b491 ≠ b564 := Nat.ne_of_lt (Nat.lt_of_lt_of_le (A_b491_502).lt (Nat.le_of_eq g564))
      have ne_b496_b564 : b496 ≠ b564 := Nat.ne_of_lt (Nat.lt_of_lt_of_le (A_501).lt (Nat.le_of_eq g564))
      have A_b564 : AR Z h564 b564 .int [(.int 0), (.int 0), (.int 0)] := A564
      show Go p e below s n0 _ _ _ (T564.setTop (mkF m 128 #[iv pp, iv ff, iv t0, iv t1, iv t2, iv t3, iv cc.toInt32, iv 3, iv c1.toInt32, rv b491, rv b496, .unset, .unset, .unset] [(.ref b564)]))
      refine Go.st (fun _ => XS.astore X564.here C.hx rfl (hb C.hby at_128) rfl rfl (l' := #[iv pp, iv ff, iv t0, iv t1, iv t2, iv t3, iv cc.toInt32, iv 3, iv c1.toInt32, rv b491, rv b496, rv b564, .unset, .unset]) rfl) ?_
      show Go p e below s n0 _ _ _ (T564.setTop (mkF m 130 #[iv pp, iv ff, iv t0, iv t1, iv t2, iv t3, iv cc.toInt32, iv 3, iv c1.toInt32, rv b491, rv b496, rv b564, .unset, .unset] []))
      refine Go.st (fun _ => XS.iload X564.here C.hx rfl (hb C.hby at_130) rfl) ?_
      show Go p e below s n0 _ _ _ (T564.setTop (mkF m 132 #[iv pp, iv ff, iv t0, iv t1, iv t2, iv t3, iv cc.toInt32, iv 3, iv c1.toInt32, rv b491, rv b496, rv b564, .unset, .unset] [(.int 3)]))
      refine Go.newP C X564 (aty := .int) (cap := 4) (wd 4 rfl) at_132 (by decide) (by decide) (by decide) (by decide) (by decide) (fun T565 h565 b565 g565 ge565 X565 E565 A565 => ?_)
      have ne_b491_b565 : b491 ≠ b565 := Nat.ne_of_lt (Nat.lt_of_lt_of_le ((A_b491_502.ext E564)).lt (Nat.le_of_eq g565))
      have ne_b496_b565 : b496 ≠ b565 := Nat.ne_of_lt (Nat.lt_of_lt_of_le ((A_501.ext E564)).lt (Nat.le_of_eq g565))
      have ne_b564_b565 : b564 ≠ b565 := Nat.ne_of_lt (Nat.lt_of_lt_of_le (A_b564).lt (Nat.le_of_eq g565))
      have A_b565 : AR Z h565 b565 .int [(.int 0), (.int 0), (.int 0)] := A565
      show Go p e below s n0 _ _ _ (T565.setTop (mkF m 134 #[iv pp, iv ff, iv t0, iv t1, iv t2, iv t3, iv cc.toInt32, iv 3, iv c1.toInt32, rv b491, rv b496, rv b564, .unset, .unset] [(.ref b565)]))
      refine Go.st (fun _ => XS.astore X565.here C.hx rfl (hb C.hby at_134) rfl rfl (l' := #[iv pp, iv ff, iv t0, iv t1, iv t2, iv t3, iv cc.toInt32, iv 3, iv c1.toInt32, rv b491, rv b496, rv b564, rv b565, .unset]) rfl) ?_
      show Go p e below s n0 _ _ _ (T565.setTop (mkF m 136 #[iv pp, iv ff, iv t0, iv t1, iv t2, iv t3, iv cc.toInt32, iv 3, iv c1.toInt32, rv b491, rv b496, rv b564, rv b565, .unset] []))
      refine Go.st (fun _ => XS.iload X565.here C.hx rfl (hb C.hby at_136) rfl) ?_
      show Go p e below s n0 _ _ _ (T565.setTop (mkF m 138 #[iv pp, iv ff, iv t0, iv t1, iv t2, iv t3, iv cc.toInt32, iv 3, iv c1.toInt32, rv b491, rv b496, rv b564, rv b565, .unset] [(.int 3)]))
      refine Go.if_le C X565 (pc' := 157) at_138 (by decide) (by decide) (fun hc => absurd hc (by decide)) (fun _ => ?_)
      show Go p e below s n0 _ _ _ (T565.setTop (mkF m 141 #[iv pp, iv ff, iv t0, iv t1, iv t2, iv t3, iv cc.toInt32, iv 3, iv c1.toInt32, rv b491, rv b496, rv b564, rv b565, .unset] []))
      refine Go.st (fun _ => XS.aload X565.here C.hx rfl (hb C.hby at_141) rfl rfl) ?_
      show Go p e below s n0 _ _ _ (T565.setTop (mkF m 143 #[iv pp, iv ff, iv t0, iv t1, iv t2, iv t3, iv cc.toInt32, iv 3, iv c1.toInt32, rv b491, rv b496, rv b564, rv b565, .unset] [(.ref b564)]))
      refine Go.st (fun _ => XS.iconst X565.here C.hx rfl (hb C.hby at_143)) ?_
      show Go p e below s n0 _ _ _ (T565.setTop (mkF m 144 #[iv pp, iv ff, iv t0, iv t1, iv t2, iv t3, iv cc.toInt32, iv 3, iv c1.toInt32, rv b491, rv b496, rv b564, rv b565, .unset] [(.int 0), (.ref b564)]))
      refine Go.st (fun _ => XS.aload X565.here C.hx rfl (hb C.hby at_144) rfl rfl) ?_
      show Go p e below s n0 _ _ _ (T565.setTop (mkF m 146 #[iv pp, iv ff, iv t0, iv t1, iv t2, iv t3, iv cc.toInt32, iv 3, iv c1.toInt32, rv b491, rv b496, rv b564, rv b565, .unset] [(.ref b491), (.int 0), (.ref b564)]))
      refine Go.st (fun _ => XS.iconst X565.here C.hx rfl (hb C.hby at_146)) ?_
      show Go p e below s n0 _ _ _ (T565.setTop (mkF m 147 #[iv pp, iv ff, iv t0, iv t1, iv t2, iv t3, iv cc.toInt32, iv 3, iv c1.toInt32, rv b491, rv b496, rv b564, rv b565, .unset] [(.int 0), (.ref b491), (.int 0), (.ref b564)]))
      refine Go.iaload C X565 ((A_b491_502.ext E564).ext E565) (by decide) rfl at_147 ?_
      show Go p e below s n0 _ _ _ (T565.setTop (mkF m 148 #[iv pp, iv ff, iv t0, iv t1, iv t2, iv t3, iv cc.toInt32, iv 3, iv c1.toInt32, rv b491, rv b496, rv b564, rv b565, .unset] [(.int g0.toInt32), (.int 0), (.ref b564)]))
      refine Go.iastore C X565 (A_b564.ext E565) (by decide) (Nat.le_of_ble_eq_true rfl) ge564 at_148 (fun T567 h567 X567 W567 A567 => ?_)
      have A_567 : AR Z h567 b564 .int [(.int g0.toInt32), (.int 0), (.int 0)] := A567
      have A_b491_568 : AR Z h567 b491 .int [(.int g0.toInt32), (.int g1.toInt32), (.int g2.toInt32), (.int g3.toInt32)] := (((A_b491_502.ext E564).ext E565).other W567 ne_b491_b564)
      have A_b496_569 : AR Z h567 b496 .int [(.int t0), (.int t1), (.int t2), (.int t3)] := (((A_501.ext E564).ext E565).other W567 ne_b496_b564)
      have A_b565_570 : AR Z h567 b565 .int [(.int 0), (.int 0), (.int 0)] := (A_b565.other W567 (Ne.symm ne_b564_b565))
      show Go p e below s n0 _ _ _ (T567.setTop (mkF m 149 #[iv pp, iv ff, iv t0, iv t1, iv t2, iv t3, iv cc.toInt32, iv 3, iv c1.toInt32, rv b491, rv b496, rv b564, rv b565, .unset] []))
      refine Go.st (fun _ => XS.aload X567.here C.hx rfl (hb C.hby at_149) rfl rfl) ?_
      show Go p e below s n0 _ _ _ (T567.setTop (mkF m 151 #[iv pp, iv ff, iv t0, iv t1, iv t2, iv t3, iv cc.toInt32, iv 3, iv c1.toInt32, rv b491, rv b496, rv b564, rv b565, .unset] [(.ref b565)]))
      refine Go.st (fun _ => XS.iconst X567.here C.hx rfl (hb C.hby at_151)) ?_
      show Go p e below s n0 _ _ _ (T567.setTop (mkF m 152 #[iv pp, iv ff, iv t0, iv t1, iv t2, iv t3, iv cc.toInt32, iv 3, iv c1.toInt32, rv b491, rv b496, rv b564, rv b565, .unset] [(.int 0), (.ref b565)]))
      refine Go.st (fun _ => XS.aload X567.here C.hx rfl (hb C.hby at_152) rfl rfl) ?_
      show Go p e below s n0 _ _ _ (T567.setTop (mkF m 154 #[iv pp, iv ff, iv t0, iv t1, iv t2, iv t3, iv cc.toInt32, iv 3, iv c1.toInt32, rv b491, rv b496, rv b564, rv b565, .unset] [(.ref b496), (.int 0), (.ref b565)]))
      refine Go.st (fun _ => XS.iconst X567.here C.hx rfl (hb C.hby at_154)) ?_
      show Go p e below s n0 _ _ _ (T567.setTop (mkF m 155 #[iv pp, iv ff, iv t0, iv t1, iv t2, iv t3, iv cc.toInt32, iv 3, iv c1.toInt32, rv b491, rv b496, rv b564, rv b565, .unset] [(.int 0), (.ref b496), (.int 0), (.ref b565)]))
      refine Go.iaload C X567 A_b496_569 (by decide) rfl at_155 ?_
      show Go p e below s n0 _ _ _ (T567.setTop (mkF m 156 #[iv pp, iv ff, iv t0, iv t1, iv t2, iv t3, iv cc.toInt32, iv 3, iv c1.toInt32, rv b491, rv b496, rv b564, rv b565, .unset] [(.int t0), (.int 0), (.ref b565)]))
      refine Go.iastore C X567 A_b565_570 (by decide) (Nat.le_of_ble_eq_true rfl) ge565 at_156 (fun T571 h571 X571 W571 A571 => ?_)
      have A_571 : AR Z h571 b565 .int [(.int t0), (.int 0), (.int 0)] := A571
      show Go p e below s n0 _ _ _ (T571.setTop (mkF m 157 #[iv pp, iv ff, iv t0, iv t1, iv t2, iv t3, iv cc.toInt32, iv 3, iv c1.toInt32, rv b491, rv b496, rv b564, rv b565, .unset] []))
      refine Go.st (fun _ => XS.iload X571.here C.hx rfl (hb C.hby at_157) rfl) ?_
      show Go p e below s n0 _ _ _ (T571.setTop (mkF m 159 #[iv pp, iv ff, iv t0, iv t1, iv t2, iv t3, iv cc.toInt32, iv 3, iv c1.toInt32, rv b491, rv b496, rv b564, rv b565, .unset] [(.int 3)]))
      refine Go.st (fun _ => XS.iconst X571.here C.hx rfl (hb C.hby at_159)) ?_
      show Go p e below s n0 _ _ _ (T571.setTop (mkF m 160 #[iv pp, iv ff, iv t0, iv t1, iv t2, iv t3, iv cc.toInt32, iv 3, iv c1.toInt32, rv b491, rv b496, rv b564, rv b565, .unset] [(.int 1), (.int 3)]))
      refine Go.icmp_le C X571 (pc' := 179) at_160 (by decide) (by decide) (fun hc => absurd hc (by decide)) (fun _ => ?_)
      show Go p e below s n0 _ _ _ (T571.setTop (mkF m 163 #[iv pp, iv ff, iv t0, iv t1, iv t2, iv t3, iv cc.toInt32, iv 3, iv c1.toInt32, rv b491, rv b496, rv b564, rv b565, .unset] []))
      refine Go.st (fun _ => XS.aload X571.here C.hx rfl (hb C.hby at_163) rfl rfl) ?_
      show Go p e below s n0 _ _ _ (T571.setTop (mkF m 165 #[iv pp, iv ff, iv t0, iv t1, iv t2, iv t3, iv cc.toInt32, iv 3, iv c1.toInt32, rv b491, rv b496, rv b564, rv b565, .unset] [(.ref b564)]))
      refine Go.st (fun _ => XS.iconst X571.here C.hx rfl (hb C.hby at_165)) ?_
      show Go p e below s n0 _ _ _ (T571.setTop (mkF m 166 #[iv pp, iv ff, iv t0, iv t1, iv t2, iv t3, iv cc.toInt32, iv 3, iv c1.toInt32, rv b491, rv b496, rv b564, rv b565, .unset] [(.int 1), (.ref b564)]))
      refine Go.st (fun _ => XS.aload X571.here C.hx rfl (hb C.hby at_166) rfl rfl) ?_
      show Go p e below s n0 _ _ _ (T571.setTop (mkF m 168 #[iv pp, iv ff, iv t0, iv t1, iv t2, iv t3, iv cc.toInt32, iv 3, iv c1.toInt32, rv b491, rv b496, rv b564, rv b565, .unset] [(.ref b491), (.int 1), (.ref b564)]))
      refine Go.st (fun _ => XS.iconst X571.here C.hx rfl (hb C.hby at_168)) ?_
      show Go p e below s n0 _ _ _ (T571.setTop (mkF m 169 #[iv pp, iv ff, iv t0, iv t1, iv t2, iv t3, iv cc.toInt32, iv 3, iv c1.toInt32, rv b491, rv b496, rv b564, rv b565, .unset] [(.int 1), (.ref b491), (.int 1), (.ref b564)]))
      refine Go.iaload C X571 (A_b491_568.other W571 ne_b491_b565) (by decide) rfl at_169 ?_
      show Go p e below s n0 _ _ _ (T571.setTop (mkF m 170 #[iv pp, iv ff, iv t0, iv t1, iv t2, iv t3, iv cc.toInt32, iv 3, iv c1.toInt32, rv b491, rv b496, rv b564, rv b565, .unset] [(.int g1.toInt32), (.int 1), (.ref b564)]))
      refine Go.iastore C X571 (A_567.other W571 ne_b564_b565) (by decide) (Nat.le_of_ble_eq_true rfl) ge564 at_170 (fun T573 h573 X573 W573 A573 => ?_)
      have A_573 : AR Z h573 b564 .int [(.int g0.toInt32), (.int g1.toInt32), (.int 0)] := A573
      have A_b491_574 : AR Z h573 b491 .int [(.int g0.toInt32), (.int g1.toInt32), (.int g2.toInt32), (.int g3.toInt32)] := ((A_b491_568.other W571 ne_b491_b565).other W573 ne_b491_b564)
      have A_b496_575 : AR Z h573 b496 .int [(.int t0), (.int t1), (.int t2), (.int t3)] := ((A_b496_569.other W571 ne_b496_b565).other W573 ne_b496_b564)
      have A_b565_576 : AR Z h573 b565 .int [(.int t0), (.int 0), (.int 0)] := (A_571.other W573 (Ne.symm ne_b564_b565))
      show Go p e below s n0 _ _ _ (T573.setTop (mkF m 171 #[iv pp, iv ff, iv t0, iv t1, iv t2, iv t3, iv cc.toInt32, iv 3, iv c1.toInt32, rv b491, rv b496, rv b564, rv b565, .unset] []))
      refine Go.st (fun _ => XS.aload X573.here C.hx rfl (hb C.hby at_171) rfl rfl) ?_
      show Go p e below s n0 _ _ _ (T573.setTop (mkF m 173 #[iv pp, iv ff, iv t0, iv t1, iv t2, iv t3, iv cc.toInt32, iv 3, iv c1.toInt32, rv b491, rv b496, rv b564, rv b565, .unset] [(.ref b565)]))
      refine Go.st (fun _ => XS.iconst X573.here C.hx rfl (hb C.hby at_173)) ?_
      show Go p e below s n0 _ _ _ (T573.setTop (mkF m 174 #[iv pp, iv ff, iv t0, iv t1, iv t2, iv t3, iv cc.toInt32, iv 3, iv c1.toInt32, rv b491, rv b496, rv b564, rv b565, .unset] [(.int 1), (.ref b565)]))
      refine Go.st (fun _ => XS.aload X573.here C.hx rfl (hb C.hby at_174) rfl rfl) ?_
      show Go p e below s n0 _ _ _ (T573.setTop (mkF m 176 #[iv pp, iv ff, iv t0, iv t1, iv t2, iv t3, iv cc.toInt32, iv 3, iv c1.toInt32, rv b491, rv b496, rv b564, rv b565, .unset] [(.ref b496), (.int 1), (.ref b565)]))
      refine Go.st (fun _ => XS.iconst X573.here C.hx rfl (hb C.hby at_176)) ?_
      show Go p e below s n0 _ _ _ (T573.setTop (mkF m 177 #[iv pp, iv ff, iv t0, iv t1, iv t2, iv t3, iv cc.toInt32, iv 3, iv c1.toInt32, rv b491, rv b496, rv b564, rv b565, .unset] [(.int 1), (.ref b496), (.int 1), (.ref b565)]))
      refine Go.iaload C X573 A_b496_575 (by decide) rfl at_177 ?_
      show Go p e below s n0 _ _ _ (T573.setTop (mkF m 178 #[iv pp, iv ff, iv t0, iv t1, iv t2, iv t3, iv cc.toInt32, iv 3, iv c1.toInt32, rv b491, rv b496, rv b564, rv b565, .unset] [(.int t1), (.int 1), (.ref b565)]))
      refine Go.iastore C X573 A_b565_576 (by decide) (Nat.le_of_ble_eq_true rfl) ge565 at_178 (fun T577 h577 X577 W577 A577 => ?_)
      have A_577 : AR Z h577 b565 .int [(.int t0), (.int t1), (.int 0)] := A577
      show Go p e below s n0 _ _ _ (T577.setTop (mkF m 179 #[iv pp, iv ff, iv t0, iv t1, iv t2, iv t3, iv cc.toInt32, iv 3, iv c1.toInt32, rv b491, rv b496, rv b564, rv b565, .unset] []))
      refine Go.st (fun _ => XS.iload X577.here C.hx rfl (hb C.hby at_179) rfl) ?_
      show Go p e below s n0 _ _ _ (T577.setTop (mkF m 181 #[iv pp, iv ff, iv t0, iv t1, iv t2, iv t3, iv cc.toInt32, iv 3, iv c1.toInt32, rv b491, rv b496, rv b564, rv b565, .unset] [(.int 3)]))
      refine Go.st (fun _ => XS.iconst X577.here C.hx rfl (hb C.hby at_181)) ?_
      show Go p e below s n0 _ _ _ (T577.setTop (mkF m 182 #[iv pp, iv ff, iv t0, iv t1, iv t2, iv t3, iv cc.toInt32, iv 3, iv c1.toInt32, rv b491, rv b496, rv b564, rv b565, .unset] [(.int 2), (.int 3)]))
      refine Go.icmp_le C X577 (pc' := 201) at_182 (by decide) (by decide) (fun hc => absurd hc (by decide)) (fun _ => ?_)
      show Go p e below s n0 _ _ _ (T577.setTop (mkF m 185 #[iv pp, iv ff, iv t0, iv t1, iv t2, iv t3, iv cc.toInt32, iv 3, iv c1.toInt32, rv b491, rv b496, rv b564, rv b565, .unset] []))
      refine Go.st (fun _ => XS.aload X577.here C.hx rfl (hb C.hby at_185) rfl rfl) ?_
      show Go p e below s n0 _ _ _ (T577.setTop (mkF m 187 #[iv pp, iv ff, iv t0, iv t1, iv t2, iv t3, iv cc.toInt32, iv 3, iv c1.toInt32, rv b491, rv b496, rv b564, rv b565, .unset] [(.ref b564)]))
      refine Go.st (fun _ => XS.iconst X577.here C.hx rfl (hb C.hby at_187)) ?_
      show Go p e below s n0 _ _ _ (T577.setTop (mkF m 188 #[iv pp, iv ff, iv t0, iv t1, iv t2, iv t3, iv cc.toInt32, iv 3, iv c1.toInt32, rv b491, rv b496, rv b564, rv b565, .unset] [(.int 2), (.ref b564)]))
      refine Go.st (fun _ => XS.aload X577.here C.hx rfl (hb C.hby at_188) rfl rfl) ?_
      show Go p e below s n0 _ _ _ (T577.setTop (mkF m 190 #[iv pp, iv ff, iv t0, iv t1, iv t2, iv t3, iv cc.toInt32, iv 3, iv c1.toInt32, rv b491, rv b496, rv b564, rv b565, .unset] [(.ref b491), (.int 2), (.ref b564)]))
      refine Go.st (fun _ => XS.iconst X577.here C.hx rfl (hb C.hby at_190)) ?_
      show Go p e below s n0 _ _ _ (T577.setTop (mkF m 191 #[iv pp, iv ff, iv t0, iv t1, iv t2, iv t3, iv cc.toInt32, iv 3, iv c1.toInt32, rv b491, rv b496, rv b564, rv b565, .unset] [(.int 2), (.ref b491), (.int 2), (.ref b564)]))
      refine Go.iaload C X577 (A_b491_574.other W577 ne_b491_b565) (by decide) rfl at_191 ?_
      show Go p e below s n0 _ _ _ (T577.setTop (mkF m 192 #[iv pp, iv ff, iv t0, iv t1, iv t2, iv t3, iv cc.toInt32, iv 3, iv c1.toInt32, rv b491, rv b496, rv b564, rv b565, .unset] [(.int g2.toInt32), (.int 2), (.ref b564)]))
      refine Go.iastore C X577 (A_573.other W577 ne_b564_b565) (by decide) (Nat.le_of_ble_eq_true rfl) ge564 at_192 (fun T579 h579 X579 W579 A579 => ?_)
      have A_579 : AR Z h579 b564 .int [(.int g0.toInt32), (.int g1.toInt32), (.int g2.toInt32)] := A579
      have A_b491_580 : AR Z h579 b491 .int [(.int g0.toInt32), (.int g1.toInt32), (.int g2.toInt32), (.int g3.toInt32)] := ((A_b491_574.other W577 ne_b491_b565).other W579 ne_b491_b564)
      have A_b496_581 : AR Z h579 b496 .int [(.int t0), (.int t1), (.int t2), (.int t3)] := ((A_b496_575.other W577 ne_b496_b565).other W579 ne_b496_b564)
      have A_b565_582 : AR Z h579 b565 .int [(.int t0), (.int t1), (.int 0)] := (A_577.other W579 (Ne.symm ne_b564_b565))
      show Go p e below s n0 _ _ _ (T579.setTop (mkF m 193 #[iv pp, iv ff, iv t0, iv t1, iv t2, iv t3, iv cc.toInt32, iv 3, iv c1.toInt32, rv b491, rv b496, rv b564, rv b565, .unset] []))
      refine Go.st (fun _ => XS.aload X579.here C.hx rfl (hb C.hby at_193) rfl rfl) ?_
      show Go p e below s n0 _ _ _ (T579.setTop (mkF m 195 #[iv pp, iv ff, iv t0, iv t1, iv t2, iv t3, iv cc.toInt32, iv 3, iv c1.toInt32, rv b491, rv b496, rv b564, rv b565, .unset] [(.ref b565)]))
      refine Go.st (fun _ => XS.iconst X579.here C.hx rfl (hb C.hby at_195)) ?_
      show Go p e below s n0 _ _ _ (T579.setTop (mkF m 196 #[iv pp, iv ff, iv t0, iv t1, iv t2, iv t3, iv cc.toInt32, iv 3, iv c1.toInt32, rv b491, rv b496, rv b564, rv b565, .unset] [(.int 2), (.ref b565)]))
      refine Go.st (fun _ => XS.aload X579.here C.hx rfl (hb C.hby at_196) rfl rfl) ?_
      show Go p e below s n0 _ _ _ (T579.setTop (mkF m 198 #[iv pp, iv ff, iv t0, iv t1, iv t2, iv t3, iv cc.toInt32, iv 3, iv c1.toInt32, rv b491, rv b496, rv b564, rv b565, .unset] [(.ref b496), (.int 2), (.ref b565)]))
      refine Go.st (fun _ => XS.iconst X579.here C.hx rfl (hb C.hby at_198)) ?_
      show Go p e below s n0 _ _ _ (T579.setTop (mkF m 199 #[iv pp, iv ff, iv t0, iv t1, iv t2, iv t3, iv cc.toInt32, iv 3, iv c1.toInt32, rv b491, rv b496, rv b564, rv b565, .unset] [(.int 2), (.ref b496), (.int 2), (.ref b565)]))
      refine Go.iaload C X579 A_b496_581 (by decide) rfl at_199 ?_
      show Go p e below s n0 _ _ _ (T579.setTop (mkF m 200 #[iv pp, iv ff, iv t0, iv t1, iv t2, iv t3, iv cc.toInt32, iv 3, iv c1.toInt32, rv b491, rv b496, rv b564, rv b565, .unset] [(.int t2), (.int 2), (.ref b565)]))
      refine Go.iastore C X579 A_b565_582 (by decide) (Nat.le_of_ble_eq_true rfl) ge565 at_200 (fun T583 h583 X583 W583 A583 => ?_)
      have A_583 : AR Z h583 b565 .int [(.int t0), (.int t1), (.int t2)] := A583
      show Go p e below s n0 _ _ _ (T583.setTop (mkF m 201 #[iv pp, iv ff, iv t0, iv t1, iv t2, iv t3, iv cc.toInt32, iv 3, iv c1.toInt32, rv b491, rv b496, rv b564, rv b565, .unset] []))
      refine Go.st (fun _ => XS.iload X583.here C.hx rfl (hb C.hby at_201) rfl) ?_
      show Go p e below s n0 _ _ _ (T583.setTop (mkF m 203 #[iv pp, iv ff, iv t0, iv t1, iv t2, iv t3, iv cc.toInt32, iv 3, iv c1.toInt32, rv b491, rv b496, rv b564, rv b565, .unset] [(.int 3)]))
      refine Go.st (fun _ => XS.iconst X583.here C.hx rfl (hb C.hby at_203)) ?_
      show Go p e below s n0 _ _ _ (T583.setTop (mkF m 204 #[iv pp, iv ff, iv t0, iv t1, iv t2, iv t3, iv cc.toInt32, iv 3, iv c1.toInt32, rv b491, rv b496, rv b564, rv b565, .unset] [(.int 3), (.int 3)]))
      refine Go.icmp_le C X583 (pc' := 223) at_204 (by decide) (by decide) (fun _ => ?_) (fun hc => absurd hc (by decide))
      show Go p e below s n0 _ _ _ (T583.setTop (mkF m 223 #[iv pp, iv ff, iv t0, iv t1, iv t2, iv t3, iv cc.toInt32, iv 3, iv c1.toInt32, rv b491, rv b496, rv b564, rv b565, .unset] []))
      refine Go.st (fun _ => XS.iload X583.here C.hx rfl (hb C.hby at_223) rfl) ?_
      show Go p e below s n0 _ _ _ (T583.setTop (mkF m 225 #[iv pp, iv ff, iv t0, iv t1, iv t2, iv t3, iv cc.toInt32, iv 3, iv c1.toInt32, rv b491, rv b496, rv b564, rv b565, .unset] [(.int cc.toInt32)]))
      refine Go.st (fun _ => XS.aload X583.here C.hx rfl (hb C.hby at_225) rfl rfl) ?_
      show Go p e below s n0 _ _ _ (T583.setTop (mkF m 227 #[iv pp, iv ff, iv t0, iv t1, iv t2, iv t3, iv cc.toInt32, iv 3, iv c1.toInt32, rv b491, rv b496, rv b564, rv b565, .unset] [(.ref b564), (.int cc.toInt32)]))
      refine Go.st (fun _ => XS.aload X583.here C.hx rfl (hb C.hby at_227) rfl rfl) ?_
      show Go p e below s n0 _ _ _ (T583.setTop (mkF m 229 #[iv pp, iv ff, iv t0, iv t1, iv t2, iv t3, iv cc.toInt32, iv 3, iv c1.toInt32, rv b491, rv b496, rv b564, rv b565, .unset] [(.ref b565), (.ref b564), (.int cc.toInt32)]))
      refine Go.callS C X583 (W := 0) (argsL := [(.int cc.toInt32), (.ref b564), (.ref b565)]) (rest := []) (wd 5 rfl) (wd 6 rfl) (wd 7 rfl) (wd 8 rfl) (by decide) (con_adj l Z a0 hw n0 h583 X583.size cc 3 (fsF g0 g1 g2 g3) (tsF t0 t1 t2 t3) b564 b565 hcc (by decide) (fun j hj => by have e := hc1e (fun u => by have := hcn u; omega); match j, hj with | 0, _ => exact (by rw [← e]; exact hg0) | 1, _ => exact (by rw [← e]; exact hg1) | 2, _ => exact (by rw [← e]; exact hg2)) (A_579.other W583 ne_b564_b565) A_583) (by decide) (by decide) rfl (lenOf pd_2 rfl) (Nat.le_of_ble_eq_true rfl) rfl at_229 (by decide) (by decide) (fun T585 h585 v585 X585 hQ585 => ?_)
      obtain ⟨ad585, rs585, rfl, O585, RF585, K585⟩ := hQ585
      show Go p e below s n0 _ _ _ (T585.setTop (mkF m 232 #[iv pp, iv ff, iv t0, iv t1, iv t2, iv t3, iv cc.toInt32, iv 3, iv c1.toInt32, rv b491, rv b496, rv b564, rv b565, .unset] [(.ref ad585)]))
      exact JA T585 h585 ad585 b564 b565 rs585 X585 O585 RF585 ((A_b491_580.other W583 ne_b491_b565).keep K585 nin0) ((A_b496_581.other W583 ne_b496_b565).keep K585 nin0)
    · show Go p e below s n0 _ _ _ (T501.setTop (mkF m 124 #[iv pp, iv ff, iv t0, iv t1, iv t2, iv t3, iv cc.toInt32, iv 4, iv c1.toInt32, rv b491, rv b496, .unset, .unset, .unset] []))
      refine Go.st (fun _ => XS.iload X501.here C.hx rfl (hb C.hby at_124) rfl) ?_
      show Go p e below s n0 _ _ _ (T501.setTop (mkF m 126 #[iv pp, iv ff, iv t0, iv t1, iv t2, iv t3, iv cc.toInt32, iv 4, iv c1.toInt32, rv b491, rv b496, .unset, .unset, .unset] [(.int 4)]))
      refine Go.newP C X501 (aty := .int) (cap := 4) (wd 4 rfl) at_126 (by decide) (by decide) (by decide) (by decide) (by decide) (fun T586 h586 b586 g586 ge586 X586 E586 A586 => ?_)
      have ne_b491_b586 : b491 ≠ b586 := Nat.ne_of_lt (Nat.lt_of_lt_of_le (A_b491_502).lt (Nat.le_of_eq g586))
      have ne_b496_b586 : b496 ≠ b586 := Nat.ne_of_lt (Nat.lt_of_lt_of_le (A_501).lt (Nat.le_of_eq g586))
      have A_b586 : AR Z h586 b586 .int [(.int 0), (.int 0), (.int 0), (.int 0)] := A586
      show Go p e below s n0 _ _ _ (T586.setTop (mkF m 128 #[iv pp, iv ff, iv t0, iv t1, iv t2, iv t3, iv cc.toInt32, iv 4, iv c1.toInt32, rv b491, rv b496, .unset, .unset, .unset] [(.ref b586)]))
      refine Go.st (fun _ => XS.astore X586.here C.hx rfl (hb C.hby at_128) rfl rfl (l' := #[iv pp, iv ff, iv t0, iv t1, iv t2, iv t3, iv cc.toInt32, iv 4, iv c1.toInt32, rv b491, rv b496, rv b586, .unset, .unset]) rfl) ?_
      show Go p e below s n0 _ _ _ (T586.setTop (mkF m 130 #[iv pp, iv ff, iv t0, iv t1, iv t2, iv t3, iv cc.toInt32, iv 4, iv c1.toInt32, rv b491, rv b496, rv b586, .unset, .unset] []))
      refine Go.st (fun _ => XS.iload X586.here C.hx rfl (hb C.hby at_130) rfl) ?_
      show Go p e below s n0 _ _ _ (T586.setTop (mkF m 132 #[iv pp, iv ff, iv t0, iv t1, iv t2, iv t3, iv cc.toInt32, iv 4, iv c1.toInt32, rv b491, rv b496, rv b586, .unset, .unset] [(.int 4)]))
      refine Go.newP C X586 (aty := .int) (cap := 4) (wd 4 rfl) at_132 (by decide) (by decide) (by decide) (by decide) (by decide) (fun T587 h587 b587 g587 ge587 X587 E587 A587 => ?_)
      have ne_b491_b587 : b491 ≠ b587 := Nat.ne_of_lt (Nat.lt_of_lt_of_le ((A_b491_502.ext E586)).lt (Nat.le_of_eq g587))
      have ne_b496_b587 : b496 ≠ b587 := Nat.ne_of_lt (Nat.lt_of_lt_of_le ((A_501.ext E586)).lt (Nat.le_of_eq g587))
      have ne_b586_b587 : b586 ≠ b587 := Nat.ne_of_lt (Nat.lt_of_lt_of_le (A_b586).lt (Nat.le_of_eq g587))
      have A_b587 : AR Z h587 b587 .int [(.int 0), (.int 0), (.int 0), (.int 0)] := A587
      show Go p e below s n0 _ _ _ (T587.setTop (mkF m 134 #[iv pp, iv ff, iv t0, iv t1, iv t2, iv t3, iv cc.toInt32, iv 4, iv c1.toInt32, rv b491, rv b496, rv b586, .unset, .unset] [(.ref b587)]))
      refine Go.st (fun _ => XS.astore X587.here C.hx rfl (hb C.hby at_134) rfl rfl (l' := #[iv pp, iv ff, iv t0, iv t1, iv t2, iv t3, iv cc.toInt32, iv 4, iv c1.toInt32, rv b491, rv b496, rv b586, rv b587, .unset]) rfl) ?_
      show Go p e below s n0 _ _ _ (T587.setTop (mkF m 136 #[iv pp, iv ff, iv t0, iv t1, iv t2, iv t3, iv cc.toInt32, iv 4, iv c1.toInt32, rv b491, rv b496, rv b586, rv b587, .unset] []))
      refine Go.st (fun _ => XS.iload X587.here C.hx rfl (hb C.hby at_136) rfl) ?_
      show Go p e below s n0 _ _ _ (T587.setTop (mkF m 138 #[iv pp, iv ff, iv t0, iv t1, iv t2, iv t3, iv cc.toInt32, iv 4, iv c1.toInt32, rv b491, rv b496, rv b586, rv b587, .unset] [(.int 4)]))
      refine Go.if_le C X587 (pc' := 157) at_138 (by decide) (by decide) (fun hc => absurd hc (by decide)) (fun _ => ?_)
      show Go p e below s n0 _ _ _ (T587.setTop (mkF m 141 #[iv pp, iv ff, iv t0, iv t1, iv t2, iv t3, iv cc.toInt32, iv 4, iv c1.toInt32, rv b491, rv b496, rv b586, rv b587, .unset] []))
      refine Go.st (fun _ => XS.aload X587.here C.hx rfl (hb C.hby at_141) rfl rfl) ?_
      show Go p e below s n0 _ _ _ (T587.setTop (mkF m 143 #[iv pp, iv ff, iv t0, iv t1, iv t2, iv t3, iv cc.toInt32, iv 4, iv c1.toInt32, rv b491, rv b496, rv b586, rv b587, .unset] [(.ref b586)]))
      refine Go.st (fun _ => XS.iconst X587.here C.hx rfl (hb C.hby at_143)) ?_
      show Go p e below s n0 _ _ _ (T587.setTop (mkF m 144 #[iv pp, iv ff, iv t0, iv t1, iv t2, iv t3, iv cc.toInt32, iv 4, iv c1.toInt32, rv b491, rv b496, rv b586, rv b587, .unset] [(.int 0), (.ref b586)]))
      refine Go.st (fun _ => XS.aload X587.here C.hx rfl (hb C.hby at_144) rfl rfl) ?_
      show Go p e below s n0 _ _ _ (T587.setTop (mkF m 146 #[iv pp, iv ff, iv t0, iv t1, iv t2, iv t3, iv cc.toInt32, iv 4, iv c1.toInt32, rv b491, rv b496, rv b586, rv b587, .unset] [(.ref b491), (.int 0), (.ref b586)]))
      refine Go.st (fun _ => XS.iconst X587.here C.hx rfl (hb C.hby at_146)) ?_
      show Go p e below s n0 _ _ _ (T587.setTop (mkF m 147 #[iv pp, iv ff, iv t0, iv t1, iv t2, iv t3, iv cc.toInt32, iv 4, iv c1.toInt32, rv b491, rv b496, rv b586, rv b587, .unset] [(.int 0), (.ref b491), (.int 0), (.ref b586)]))
      refine Go.iaload C X587 ((A_b491_502.ext E586).ext E587) (by decide) rfl at_147 ?_
      show Go p e below s n0 _ _ _ (T587.setTop (mkF m 148 #[iv pp, iv ff, iv t0, iv t1, iv t2, iv t3, iv cc.toInt32, iv 4, iv c1.toInt32, rv b491, rv b496, rv b586, rv b587, .unset] [(.int g0.toInt32), (.int 0), (.ref b586)]))
      refine Go.iastore C X587 (A_b586.ext E587) (by decide) (Nat.le_of_ble_eq_true rfl) ge586 at_148 (fun T589 h589 X589 W589 A589 => ?_)
      have A_589 : AR Z h589 b586 .int [(.int g0.toInt32), (.int 0), (.int 0), (.int 0)] := A589
      have A_b491_590 : AR Z h589 b491 .int [(.int g0.toInt32), (.int g1.toInt32), (.int g2.toInt32), (.int g3.toInt32)] := (((A_b491_502.ext E586).ext E587).other W589 ne_b491_b586)
      have A_b496_591 : AR Z h589 b496 .int [(.int t0), (.int t1), (.int t2), (.int t3)] := (((A_501.ext E586).ext E587).other W589 ne_b496_b586)
      have A_b587_592 : AR Z h589 b587 .int [(.int 0), (.int 0), (.int 0), (.int 0)] := (A_b587.other W589 (Ne.symm ne_b586_b587))
      show Go p e below s n0 _ _ _ (T589.setTop (mkF m 149 #[iv pp, iv ff, iv t0, iv t1, iv t2, iv t3, iv cc.toInt32, iv 4, iv c1.toInt32, rv b491, rv b496, rv b586, rv b587, .unset] []))
      refine Go.st (fun _ => XS.aload X589.here C.hx rfl (hb C.hby at_149) rfl rfl) ?_
      show Go p e below s n0 _ _ _ (T589.setTop (mkF m 151 #[iv pp, iv ff, iv t0, iv t1, iv t2, iv t3, iv cc.toInt32, iv 4, iv c1.toInt32, rv b491, rv b496, rv b586, rv b587, .unset] [(.ref b587)]))
      refine Go.st (fun _ => XS.iconst X589.here C.hx rfl (hb C.hby at_151)) ?_
      show Go p e below s n0 _ _ _ (T589.setTop (mkF m 152 #[iv pp, iv ff, iv t0, iv t1, iv t2, iv t3, iv cc.toInt32, iv 4, iv c1.toInt32, rv b491, rv b496, rv b586, rv b587, .unset] [(.int 0), (.ref b587)]))
      refine Go.st (fun _ => XS.aload X589.here C.hx rfl (hb C.hby at_152) rfl rfl) ?_
      show Go p e below s n0 _ _ _ (T589.setTop (mkF m 154 #[iv pp, iv ff, iv t0, iv t1, iv t2, iv t3, iv cc.toInt32, iv 4, iv c1.toInt32, rv b491, rv b496, rv b586, rv b587, .unset] [(.ref b496), (.int 0), (.ref b587)]))
      refine Go.st (fun _ => XS.iconst X589.here C.hx rfl (hb C.hby at_154)) ?_
      show Go p e below s n0 _ _ _ (T589.setTop (mkF m 155 #[iv pp, iv ff, iv t0, iv t1, iv t2, iv t3, iv cc.toInt32, iv 4, iv c1.toInt32, rv b491, rv b496, rv b586, rv b587, .unset] [(.int 0), (.ref b496), (.int 0), (.ref b587)]))
      refine Go.iaload C X589 A_b496_591 (by decide) rfl at_155 ?_
      show Go p e below s n0 _ _ _ (T589.setTop (mkF m 156 #[iv pp, iv ff, iv t0, iv t1, iv t2, iv t3, iv cc.toInt32, iv 4, iv c1.toInt32, rv b491, rv b496, rv b586, rv b587, .unset] [(.int t0), (.int 0), (.ref b587)]))
      refine Go.iastore C X589 A_b587_592 (by decide) (Nat.le_of_ble_eq_true rfl) ge587 at_156 (fun T593 h593 X593 W593 A593 => ?_)
      have A_593 : AR Z h593 b587 .int [(.int t0), (.int 0), (.int 0), (.int 0)] := A593
      show Go p e below s n0 _ _ _ (T593.setTop (mkF m 157 #[iv pp, iv ff, iv t0, iv t1, iv t2, iv t3, iv cc.toInt32, iv 4, iv c1.toInt32, rv b491, rv b496, rv b586, rv b587, .unset] []))
      refine Go.st (fun _ => XS.iload X593.here C.hx rfl (hb C.hby at_157) rfl) ?_
      show Go p e below s n0 _ _ _ (T593.setTop (mkF m 159 #[iv pp, iv ff, iv t0, iv t1, iv t2, iv t3, iv cc.toInt32, iv 4, iv c1.toInt32, rv b491, rv b496, rv b586, rv b587, .unset] [(.int 4)]))
      refine Go.st (fun _ => XS.iconst X593.here C.hx rfl (hb C.hby at_159)) ?_
      show Go p e below s n0 _ _ _ (T593.setTop (mkF m 160 #[iv pp, iv ff, iv t0, iv t1, iv t2, iv t3, iv cc.toInt32, iv 4, iv c1.toInt32, rv b491, rv b496, rv b586, rv b587, .unset] [(.int 1), (.int 4)]))
      refine Go.icmp_le C X593 (pc' := 179) at_160 (by decide) (by decide) (fun hc => absurd hc (by decide)) (fun _ => ?_)
      show Go p e below s n0 _ _ _ (T593.setTop (mkF m 163 #[iv pp, iv ff, iv t0, iv t1, iv t2, iv t3, iv cc.toInt32, iv 4, iv c1.toInt32, rv b491, rv b496, rv b586, rv b587, .unset] []))
      refine Go.st (fun _ => XS.aload X593.here C.hx rfl (hb C.hby at_163) rfl rfl) ?_
      show Go p e below s n0 _ _ _ (T593.setTop (mkF m 165 #[iv pp, iv ff, iv t0, iv t1, iv t2, iv t3, iv cc.toInt32, iv 4, iv c1.toInt32, rv b491, rv b496, rv b586, rv b587, .unset] [(.ref b586)]))
      refine Go.st (fun _ => XS.iconst X593.here C.hx rfl (hb C.hby at_165)) ?_
      show Go p e below s n0 _ _ _ (T593.setTop (mkF m 166 #[iv pp, iv ff, iv t0, iv t1, iv t2, iv t3, iv cc.toInt32, iv 4, iv c1.toInt32, rv b491, rv b496, rv b586, rv b587, .unset] [(.int 1), (.ref b586)]))
      refine Go.st (fun _ => XS.aload X593.here C.hx rfl (hb C.hby at_166) rfl rfl) ?_
      show Go p e below s n0 _ _ _ (T593.setTop (mkF m 168 #[iv pp, iv ff, iv t0, iv t1, iv t2, iv t3, iv cc.toInt32, iv 4, iv c1.toInt32, rv b491, rv b496, rv b586, rv b587, .unset] [(.ref b491), (.int 1), (.ref b586)]))
      refine Go.st (fun _ => XS.iconst X593.here C.hx rfl (hb C.hby at_168)) ?_
      show Go p e below s n0 _ _ _ (T593.setTop (mkF m 169 #[iv pp, iv ff, iv t0, iv t1, iv t2, iv t3, iv cc.toInt32, iv 4, iv c1.toInt32, rv b491, rv b496, rv b586, rv b587, .unset] [(.int 1), (.ref b491), (.int 1), (.ref b586)]))
      refine Go.iaload C X593 (A_b491_590.other W593 ne_b491_b587) (by decide) rfl at_169 ?_
      show Go p e below s n0 _ _ _ (T593.setTop (mkF m 170 #[iv pp, iv ff, iv t0, iv t1, iv t2, iv t3, iv cc.toInt32, iv 4, iv c1.toInt32, rv b491, rv b496, rv b586, rv b587, .unset] [(.int g1.toInt32), (.int 1), (.ref b586)]))
      refine Go.iastore C X593 (A_589.other W593 ne_b586_b587) (by decide) (Nat.le_of_ble_eq_true rfl) ge586 at_170 (fun T595 h595 X595 W595 A595 => ?_)
      have A_595 : AR Z h595 b586 .int [(.int g0.toInt32), (.int g1.toInt32), (.int 0), (.int 0)] := A595
      have A_b491_596 : AR Z h595 b491 .int [(.int g0.toInt32), (.int g1.toInt32), (.int g2.toInt32), (.int g3.toInt32)] := ((A_b491_590.other W593 ne_b491_b587).other W595 ne_b491_b586)
      have A_b496_597 : AR Z h595 b496 .int [(.int t0), (.int t1), (.int t2), (.int t3)] := ((A_b496_591.other W593 ne_b496_b587).other W595 ne_b496_b586)
      have A_b587_598 : AR Z h595 b587 .int [(.int t0), (.int 0), (.int 0), (.int 0)] := (A_593.other W595 (Ne.symm ne_b586_b587))
      show Go p e below s n0 _ _ _ (T595.setTop (mkF m 171 #[iv pp, iv ff, iv t0, iv t1, iv t2, iv t3, iv cc.toInt32, iv 4, iv c1.toInt32, rv b491, rv b496, rv b586, rv b587, .unset] []))
      refine Go.st (fun _ => XS.aload X595.here C.hx rfl (hb C.hby at_171) rfl rfl) ?_
      show Go p e below s n0 _ _ _ (T595.setTop (mkF m 173 #[iv pp, iv ff, iv t0, iv t1, iv t2, iv t3, iv cc.toInt32, iv 4, iv c1.toInt32, rv b491, rv b496, rv b586, rv b587, .unset] [(.ref b587)]))
      refine Go.st (fun _ => XS.iconst X595.here C.hx rfl (hb C.hby at_173)) ?_
      show Go p e below s n0 _ _ _ (T595.setTop (mkF m 174 #[iv pp, iv ff, iv t0, iv t1, iv t2, iv t3, iv cc.toInt32, iv 4, iv c1.toInt32, rv b491, rv b496, rv b586, rv b587, .unset] [(.int 1), (.ref b587)]))
      refine Go.st (fun _ => XS.aload X595.here C.hx rfl (hb C.hby at_174) rfl rfl) ?_
      show Go p e below s n0 _ _ _ (T595.setTop (mkF m 176 #[iv pp, iv ff, iv t0, iv t1, iv t2, iv t3, iv cc.toInt32, iv 4, iv c1.toInt32, rv b491, rv b496, rv b586, rv b587, .unset] [(.ref b496), (.int 1), (.ref b587)]))
      refine Go.st (fun _ => XS.iconst X595.here C.hx rfl (hb C.hby at_176)) ?_
      show Go p e below s n0 _ _ _ (T595.setTop (mkF m 177 #[iv pp, iv ff, iv t0, iv t1, iv t2, iv t3, iv cc.toInt32, iv 4, iv c1.toInt32, rv b491, rv b496, rv b586, rv b587, .unset] [(.int 1), (.ref b496), (.int 1), (.ref b587)]))
      refine Go.iaload C X595 A_b496_597 (by decide) rfl at_177 ?_
      show Go p e below s n0 _ _ _ (T595.setTop (mkF m 178 #[iv pp, iv ff, iv t0, iv t1, iv t2, iv t3, iv cc.toInt32, iv 4, iv c1.toInt32, rv b491, rv b496, rv b586, rv b587, .unset] [(.int t1), (.int 1), (.ref b587)]))
      refine Go.iastore C X595 A_b587_598 (by decide) (Nat.le_of_ble_eq_true rfl) ge587 at_178 (fun T599 h599 X599 W599 A599 => ?_)
      have A_599 : AR Z h599 b587 .int [(.int t0), (.int t1), (.int 0), (.int 0)] := A599
      show Go p e below s n0 _ _ _ (T599.setTop (mkF m 179 #[iv pp, iv ff, iv t0, iv t1, iv t2, iv t3, iv cc.toInt32, iv 4, iv c1.toInt32, rv b491, rv b496, rv b586, rv b587, .unset] []))
      refine Go.st (fun _ => XS.iload X599.here C.hx rfl (hb C.hby at_179) rfl) ?_
      show Go p e below s n0 _ _ _ (T599.setTop (mkF m 181 #[iv pp, iv ff, iv t0, iv t1, iv t2, iv t3, iv cc.toInt32, iv 4, iv c1.toInt32, rv b491, rv b496, rv b586, rv b587, .unset] [(.int 4)]))
      refine Go.st (fun _ => XS.iconst X599.here C.hx rfl (hb C.hby at_181)) ?_
      show Go p e below s n0 _ _ _ (T599.setTop (mkF m 182 #[iv pp, iv ff, iv t0, iv t1, iv t2, iv t3, iv cc.toInt32, iv 4, iv c1.toInt32, rv b491, rv b496, rv b586, rv b587, .unset] [(.int 2), (.int 4)]))
      refine Go.icmp_le C X599 (pc' := 201) at_182 (by decide) (by decide) (fun hc => absurd hc (by decide)) (fun _ => ?_)
      show Go p e below s n0 _ _ _ (T599.setTop (mkF m 185 #[iv pp, iv ff, iv t0, iv t1, iv t2, iv t3, iv cc.toInt32, iv 4, iv c1.toInt32, rv b491, rv b496, rv b586, rv b587, .unset] []))
      refine Go.st (fun _ => XS.aload X599.here C.hx rfl (hb C.hby at_185) rfl rfl) ?_
      show Go p e below s n0 _ _ _ (T599.setTop (mkF m 187 #[iv pp, iv ff, iv t0, iv t1, iv t2, iv t3, iv cc.toInt32, iv 4, iv c1.toInt32, rv b491, rv b496, rv b586, rv b587, .unset] [(.ref b586)]))
      refine Go.st (fun _ => XS.iconst X599.here C.hx rfl (hb C.hby at_187)) ?_
      show Go p e below s n0 _ _ _ (T599.setTop (mkF m 188 #[iv pp, iv ff, iv t0, iv t1, iv t2, iv t3, iv cc.toInt32, iv 4, iv c1.toInt32, rv b491, rv b496, rv b586, rv b587, .unset] [(.int 2), (.ref b586)]))
      refine Go.st (fun _ => XS.aload X599.here C.hx rfl (hb C.hby at_188) rfl rfl) ?_
      show Go p e below s n0 _ _ _ (T599.setTop (mkF m 190 #[iv pp, iv ff, iv t0, iv t1, iv t2, iv t3, iv cc.toInt32, iv 4, iv c1.toInt32, rv b491, rv b496, rv b586, rv b587, .unset] [(.ref b491), (.int 2), (.ref b586)]))
      refine Go.st (fun _ => XS.iconst X599.here C.hx rfl (hb C.hby at_190)) ?_
      show Go p e below s n0 _ _ _ (T599.setTop (mkF m 191 #[iv pp, iv ff, iv t0, iv t1, iv t2, iv t3, iv cc.toInt32, iv 4, iv c1.toInt32, rv b491, rv b496, rv b586, rv b587, .unset] [(.int 2), (.ref b491), (.int 2), (.ref b586)]))
      refine Go.iaload C X599 (A_b491_596.other W599 ne_b491_b587) (by decide) rfl at_191 ?_
      show Go p e below s n0 _ _ _ (T599.setTop (mkF m 192 #[iv pp, iv ff, iv t0, iv t1, iv t2, iv t3, iv cc.toInt32, iv 4, iv c1.toInt32, rv b491, rv b496, rv b586, rv b587, .unset] [(.int g2.toInt32), (.int 2), (.ref b586)]))
      refine Go.iastore C X599 (A_595.other W599 ne_b586_b587) (by decide) (Nat.le_of_ble_eq_true rfl) ge586 at_192 (fun T601 h601 X601 W601 A601 => ?_)
      have A_601 : AR Z h601 b586 .int [(.int g0.toInt32), (.int g1.toInt32), (.int g2.toInt32), (.int 0)] := A601
      have A_b491_602 : AR Z h601 b491 .int [(.int g0.toInt32), (.int g1.toInt32), (.int g2.toInt32), (.int g3.toInt32)] := ((A_b491_596.other W599 ne_b491_b587).other W601 ne_b491_b586)
      have A_b496_603 : AR Z h601 b496 .int [(.int t0), (.int t1), (.int t2), (.int t3)] := ((A_b496_597.other W599 ne_b496_b587).other W601 ne_b496_b586)
      have A_b587_604 : AR Z h601 b587 .int [(.int t0), (.int t1), (.int 0), (.int 0)] := (A_599.other W601 (Ne.symm ne_b586_b587))
      show Go p e below s n0 _ _ _ (T601.setTop (mkF m 193 #[iv pp, iv ff, iv t0, iv t1, iv t2, iv t3, iv cc.toInt32, iv 4, iv c1.toInt32, rv b491, rv b496, rv b586, rv b587, .unset] []))
      refine Go.st (fun _ => XS.aload X601.here C.hx rfl (hb C.hby at_193) rfl rfl) ?_
      show Go p e below s n0 _ _ _ (T601.setTop (mkF m 195 #[iv pp, iv ff, iv t0, iv t1, iv t2, iv t3, iv cc.toInt32, iv 4, iv c1.toInt32, rv b491, rv b496, rv b586, rv b587, .unset] [(.ref b587)]))
      refine Go.st (fun _ => XS.iconst X601.here C.hx rfl (hb C.hby at_195)) ?_
      show Go p e below s n0 _ _ _ (T601.setTop (mkF m 196 #[iv pp, iv ff, iv t0, iv t1, iv t2, iv t3, iv cc.toInt32, iv 4, iv c1.toInt32, rv b491, rv b496, rv b586, rv b587, .unset] [(.int 2), (.ref b587)]))
      refine Go.st (fun _ => XS.aload X601.here C.hx rfl (hb C.hby at_196) rfl rfl) ?_
      show Go p e below s n0 _ _ _ (T601.setTop (mkF m 198 #[iv pp, iv ff, iv t0, iv t1, iv t2, iv t3, iv cc.toInt32, iv 4, iv c1.toInt32, rv b491, rv b496, rv b586, rv b587, .unset] [(.ref b496), (.int 2), (.ref b587)]))
      refine Go.st (fun _ => XS.iconst X601.here C.hx rfl (hb C.hby at_198)) ?_
      show Go p e below s n0 _ _ _ (T601.setTop (mkF m 199 #[iv pp, iv ff, iv t0, iv t1, iv t2, iv t3, iv cc.toInt32, iv 4, iv c1.toInt32, rv b491, rv b496, rv b586, rv b587, .unset] [(.int 2), (.ref b496), (.int 2), (.ref b587)]))
      refine Go.iaload C X601 A_b496_603 (by decide) rfl at_199 ?_
      show Go p e below s n0 _ _ _ (T601.setTop (mkF m 200 #[iv pp, iv ff, iv t0, iv t1, iv t2, iv t3, iv cc.toInt32, iv 4, iv c1.toInt32, rv b491, rv b496, rv b586, rv b587, .unset] [(.int t2), (.int 2), (.ref b587)]))
      refine Go.iastore C X601 A_b587_604 (by decide) (Nat.le_of_ble_eq_true rfl) ge587 at_200 (fun T605 h605 X605 W605 A605 => ?_)
      have A_605 : AR Z h605 b587 .int [(.int t0), (.int t1), (.int t2), (.int 0)] := A605
      show Go p e below s n0 _ _ _ (T605.setTop (mkF m 201 #[iv pp, iv ff, iv t0, iv t1, iv t2, iv t3, iv cc.toInt32, iv 4, iv c1.toInt32, rv b491, rv b496, rv b586, rv b587, .unset] []))
      refine Go.st (fun _ => XS.iload X605.here C.hx rfl (hb C.hby at_201) rfl) ?_
      show Go p e below s n0 _ _ _ (T605.setTop (mkF m 203 #[iv pp, iv ff, iv t0, iv t1, iv t2, iv t3, iv cc.toInt32, iv 4, iv c1.toInt32, rv b491, rv b496, rv b586, rv b587, .unset] [(.int 4)]))
      refine Go.st (fun _ => XS.iconst X605.here C.hx rfl (hb C.hby at_203)) ?_
      show Go p e below s n0 _ _ _ (T605.setTop (mkF m 204 #[iv pp, iv ff, iv t0, iv t1, iv t2, iv t3, iv cc.toInt32, iv 4, iv c1.toInt32, rv b491, rv b496, rv b586, rv b587, .unset] [(.int 3), (.int 4)]))
      refine Go.icmp_le C X605 (pc' := 223) at_204 (by decide) (by decide) (fun hc => absurd hc (by decide)) (fun _ => ?_)
      show Go p e below s n0 _ _ _ (T605.setTop (mkF m 207 #[iv pp, iv ff, iv t0, iv t1, iv t2, iv t3, iv cc.toInt32, iv 4, iv c1.toInt32, rv b491, rv b496, rv b586, rv b587, .unset] []))
      refine Go.st (fun _ => XS.aload X605.here C.hx rfl (hb C.hby at_207) rfl rfl) ?_
      show Go p e below s n0 _ _ _ (T605.setTop (mkF m 209 #[iv pp, iv ff, iv t0, iv t1, iv t2, iv t3, iv cc.toInt32, iv 4, iv c1.toInt32, rv b491, rv b496, rv b586, rv b587, .unset] [(.ref b586)]))
      refine Go.st (fun _ => XS.iconst X605.here C.hx rfl (hb C.hby at_209)) ?_
      show Go p e below s n0 _ _ _ (T605.setTop (mkF m 210 #[iv pp, iv ff, iv t0, iv t1, iv t2, iv t3, iv cc.toInt32, iv 4, iv c1.toInt32, rv b491, rv b496, rv b586, rv b587, .unset] [(.int 3), (.ref b586)]))
      refine Go.st (fun _ => XS.aload X605.here C.hx rfl (hb C.hby at_210) rfl rfl) ?_
      show Go p e below s n0 _ _ _ (T605.setTop (mkF m 212 #[iv pp, iv ff, iv t0, iv t1, iv t2, iv t3, iv cc.toInt32, iv 4, iv c1.toInt32, rv b491, rv b496, rv b586, rv b587, .unset] [(.ref b491), (.int 3), (.ref b586)]))
      refine Go.st (fun _ => XS.iconst X605.here C.hx rfl (hb C.hby at_212)) ?_
      show Go p e below s n0 _ _ _ (T605.setTop (mkF m 213 #[iv pp, iv ff, iv t0, iv t1, iv t2, iv t3, iv cc.toInt32, iv 4, iv c1.toInt32, rv b491, rv b496, rv b586, rv b587, .unset] [(.int 3), (.ref b491), (.int 3), (.ref b586)]))
      refine Go.iaload C X605 (A_b491_602.other W605 ne_b491_b587) (by decide) rfl at_213 ?_
      show Go p e below s n0 _ _ _ (T605.setTop (mkF m 214 #[iv pp, iv ff, iv t0, iv t1, iv t2, iv t3, iv cc.toInt32, iv 4, iv c1.toInt32, rv b491, rv b496, rv b586, rv b587, .unset] [(.int g3.toInt32), (.int 3), (.ref b586)]))
      refine Go.iastore C X605 (A_601.other W605 ne_b586_b587) (by decide) (Nat.le_of_ble_eq_true rfl) ge586 at_214 (fun T607 h607 X607 W607 A607 => ?_)
      have A_607 : AR Z h607 b586 .int [(.int g0.toInt32), (.int g1.toInt32), (.int g2.toInt32), (.int g3.toInt32)] := A607
      have A_b491_608 : AR Z h607 b491 .int [(.int g0.toInt32), (.int g1.toInt32), (.int g2.toInt32), (.int g3.toInt32)] := ((A_b491_602.other W605 ne_b491_b587).other W607 ne_b491_b586)
      have A_b496_609 : AR Z h607 b496 .int [(.int t0), (.int t1), (.int t2), (.int t3)] := ((A_b496_603.other W605 ne_b496_b587).other W607 ne_b496_b586)
      have A_b587_610 : AR Z h607 b587 .int [(.int t0), (.int t1), (.int t2), (.int 0)] := (A_605.other W607 (Ne.symm ne_b586_b587))
      show Go p e below s n0 _ _ _ (T607.setTop (mkF m 215 #[iv pp, iv ff, iv t0, iv t1, iv t2, iv t3, iv cc.toInt32, iv 4, iv c1.toInt32, rv b491, rv b496, rv b586, rv b587, .unset] []))
      refine Go.st (fun _ => XS.aload X607.here C.hx rfl (hb C.hby at_215) rfl rfl) ?_
      show Go p e below s n0 _ _ _ (T607.setTop (mkF m 217 #[iv pp, iv ff, iv t0, iv t1, iv t2, iv t3, iv cc.toInt32, iv 4, iv c1.toInt32, rv b491, rv b496, rv b586, rv b587, .unset] [(.ref b587)]))
      refine Go.st (fun _ => XS.iconst X607.here C.hx rfl (hb C.hby at_217)) ?_
      show Go p e below s n0 _ _ _ (T607.setTop (mkF m 218 #[iv pp, iv ff, iv t0, iv t1, iv t2, iv t3, iv cc.toInt32, iv 4, iv c1.toInt32, rv b491, rv b496, rv b586, rv b587, .unset] [(.int 3), (.ref b587)]))
      refine Go.st (fun _ => XS.aload X607.here C.hx rfl (hb C.hby at_218) rfl rfl) ?_
      show Go p e below s n0 _ _ _ (T607.setTop (mkF m 220 #[iv pp, iv ff, iv t0, iv t1, iv t2, iv t3, iv cc.toInt32, iv 4, iv c1.toInt32, rv b491, rv b496, rv b586, rv b587, .unset] [(.ref b496), (.int 3), (.ref b587)]))
      refine Go.st (fun _ => XS.iconst X607.here C.hx rfl (hb C.hby at_220)) ?_
      show Go p e below s n0 _ _ _ (T607.setTop (mkF m 221 #[iv pp, iv ff, iv t0, iv t1, iv t2, iv t3, iv cc.toInt32, iv 4, iv c1.toInt32, rv b491, rv b496, rv b586, rv b587, .unset] [(.int 3), (.ref b496), (.int 3), (.ref b587)]))
      refine Go.iaload C X607 A_b496_609 (by decide) rfl at_221 ?_
      show Go p e below s n0 _ _ _ (T607.setTop (mkF m 222 #[iv pp, iv ff, iv t0, iv t1, iv t2, iv t3, iv cc.toInt32, iv 4, iv c1.toInt32, rv b491, rv b496, rv b586, rv b587, .unset] [(.int t3), (.int 3), (.ref b587)]))
      refine Go.iastore C X607 A_b587_610 (by decide) (Nat.le_of_ble_eq_true rfl) ge587 at_222 (fun T611 h611 X611 W611 A611 => ?_)
      have A_611 : AR Z h611 b587 .int [(.int t0), (.int t1), (.int t2), (.int t3)] := A611
      show Go p e below s n0 _ _ _ (T611.setTop (mkF m 223 #[iv pp, iv ff, iv t0, iv t1, iv t2, iv t3, iv cc.toInt32, iv 4, iv c1.toInt32, rv b491, rv b496, rv b586, rv b587, .unset] []))
      refine Go.st (fun _ => XS.iload X611.here C.hx rfl (hb C.hby at_223) rfl) ?_
      show Go p e below s n0 _ _ _ (T611.setTop (mkF m 225 #[iv pp, iv ff, iv t0, iv t1, iv t2, iv t3, iv cc.toInt32, iv 4, iv c1.toInt32, rv b491, rv b496, rv b586, rv b587, .unset] [(.int cc.toInt32)]))
      refine Go.st (fun _ => XS.aload X611.here C.hx rfl (hb C.hby at_225) rfl rfl) ?_
      show Go p e below s n0 _ _ _ (T611.setTop (mkF m 227 #[iv pp, iv ff, iv t0, iv t1, iv t2, iv t3, iv cc.toInt32, iv 4, iv c1.toInt32, rv b491, rv b496, rv b586, rv b587, .unset] [(.ref b586), (.int cc.toInt32)]))
      refine Go.st (fun _ => XS.aload X611.here C.hx rfl (hb C.hby at_227) rfl rfl) ?_
      show Go p e below s n0 _ _ _ (T611.setTop (mkF m 229 #[iv pp, iv ff, iv t0, iv t1, iv t2, iv t3, iv cc.toInt32, iv 4, iv c1.toInt32, rv b491, rv b496, rv b586, rv b587, .unset] [(.ref b587), (.ref b586), (.int cc.toInt32)]))
      refine Go.callS C X611 (W := 0) (argsL := [(.int cc.toInt32), (.ref b586), (.ref b587)]) (rest := []) (wd 5 rfl) (wd 6 rfl) (wd 7 rfl) (wd 8 rfl) (by decide) (con_adj l Z a0 hw n0 h611 X611.size cc 4 (fsF g0 g1 g2 g3) (tsF t0 t1 t2 t3) b586 b587 hcc (by decide) (fun j hj => by have e := hc1e (fun u => by have := hcn u; omega); match j, hj with | 0, _ => exact (by rw [← e]; exact hg0) | 1, _ => exact (by rw [← e]; exact hg1) | 2, _ => exact (by rw [← e]; exact hg2) | 3, _ => exact (by rw [← e]; exact hg3)) (A_607.other W611 ne_b586_b587) A_611) (by decide) (by decide) rfl (lenOf pd_2 rfl) (Nat.le_of_ble_eq_true rfl) rfl at_229 (by decide) (by decide) (fun T612 h612 v612 X612 hQ612 => ?_)
      obtain ⟨ad612, rs612, rfl, O612, RF612, K612⟩ := hQ612
      show Go p e below s n0 _ _ _ (T612.setTop (mkF m 232 #[iv pp, iv ff, iv t0, iv t1, iv t2, iv t3, iv cc.toInt32, iv 4, iv c1.toInt32, rv b491, rv b496, rv b586, rv b587, .unset] [(.ref ad612)]))
      exact JA T612 h612 ad612 b586 b587 rs612 X612 O612 RF612 ((A_b491_608.other W611 ne_b491_b587).keep K612 nin0) ((A_b496_609.other W611 ne_b496_b587).keep K612 nin0)
  refine Go.if_ne C X0 (pc' := 17) at_10 (by decide) (by decide) (fun hc10_488 => ?_) (fun hc10_488 => ?_)
  · show Go p e below s n0 _ _ _ (T0.setTop (mkF m 17 #[iv pp, iv ff, iv t0, iv t1, iv t2, iv t3, iv cc.toInt32, .unset, .unset, .unset, .unset, .unset, .unset, .unset] []))
    refine Go.st (fun _ => XS.iloadN X0.here C.hx rfl (hb C.hby at_17) rfl) ?_
    show Go p e below s n0 _ _ _ (T0.setTop (mkF m 18 #[iv pp, iv ff, iv t0, iv t1, iv t2, iv t3, iv cc.toInt32, .unset, .unset, .unset, .unset, .unset, .unset, .unset] [(.int pp)]))
    refine Go.st (fun _ => XS.iconst X0.here C.hx rfl (hb C.hby at_18)) ?_
    show Go p e below s n0 _ _ _ (T0.setTop (mkF m 19 #[iv pp, iv ff, iv t0, iv t1, iv t2, iv t3, iv cc.toInt32, .unset, .unset, .unset, .unset, .unset, .unset, .unset] [(.int 3), (.int pp)]))
    refine Go.st (fun _ => XS.iushr X0.here C.hx rfl (hb C.hby at_19) rfl) ?_
    show Go p e below s n0 _ _ _ (T0.setTop (mkF m 20 #[iv pp, iv ff, iv t0, iv t1, iv t2, iv t3, iv cc.toInt32, .unset, .unset, .unset, .unset, .unset, .unset, .unset] [(.int (ius pp (3 : Int32)))]))
    refine Go.st (fun _ => XS.bipush X0.here C.hx rfl (hb C.hby at_20)) ?_
    show Go p e below s n0 _ _ _ (T0.setTop (mkF m 22 #[iv pp, iv ff, iv t0, iv t1, iv t2, iv t3, iv cc.toInt32, .unset, .unset, .unset, .unset, .unset, .unset, .unset] [(.int 7), (.int (ius pp (3 : Int32)))]))
    refine Go.st (fun _ => XS.iand X0.here C.hx rfl (hb C.hby at_22) rfl) ?_
    show Go p e below s n0 _ _ _ (T0.setTop (mkF m 23 #[iv pp, iv ff, iv t0, iv t1, iv t2, iv t3, iv cc.toInt32, .unset, .unset, .unset, .unset, .unset, .unset, .unset] [(.int ((ius pp (3 : Int32)) &&& (7 : Int32)))]))
    refine Go.st (fun _ => XS.iconst X0.here C.hx rfl (hb C.hby at_23)) ?_
    show Go p e below s n0 _ _ _ (T0.setTop (mkF m 24 #[iv pp, iv ff, iv t0, iv t1, iv t2, iv t3, iv cc.toInt32, .unset, .unset, .unset, .unset, .unset, .unset, .unset] [(.int 5), (.int ((ius pp (3 : Int32)) &&& (7 : Int32)))]))
    refine Go.irem C X0 (by decide) at_24 ?_
    show Go p e below s n0 _ _ _ (T0.setTop (mkF m 25 #[iv pp, iv ff, iv t0, iv t1, iv t2, iv t3, iv cc.toInt32, .unset, .unset, .unset, .unset, .unset, .unset, .unset] [(.int (((ius pp (3 : Int32)) &&& (7 : Int32)) % (5 : Int32)))]))
    exact J489 T0 (((ius pp (3 : Int32)) &&& (7 : Int32)) % (5 : Int32)) X0 (by obtain ⟨k, hk, ek⟩ := r5 (x := ius pp (3 : Int32)) rfl; exact ⟨k, hk, ek, fun u => absurd (by rw [u]; rfl) hc10_488⟩)
  · show Go p e below s n0 _ _ _ (T0.setTop (mkF m 13 #[iv pp, iv ff, iv t0, iv t1, iv t2, iv t3, iv cc.toInt32, .unset, .unset, .unset, .unset, .unset, .unset, .unset] []))
    refine Go.st (fun _ => XS.iconst X0.here C.hx rfl (hb C.hby at_13)) ?_
    show Go p e below s n0 _ _ _ (T0.setTop (mkF m 14 #[iv pp, iv ff, iv t0, iv t1, iv t2, iv t3, iv cc.toInt32, .unset, .unset, .unset, .unset, .unset, .unset, .unset] [(.int 0)]))
    refine Go.st (fun _ => XS.goto X0.here C.hx rfl (pc0 := 14) (pc' := 25) rfl (hb C.hby at_14) (by decide) (by decide)) ?_
    show Go p e below s n0 _ _ _ (T0.setTop (mkF m 25 #[iv pp, iv ff, iv t0, iv t1, iv t2, iv t3, iv cc.toInt32, .unset, .unset, .unset, .unset, .unset, .unset, .unset] [(.int 0)]))
    exact J489 T0 (0 : Int32) X0 (⟨0, by decide, rfl, fun _ => rfl⟩)
set_option maxRecDepth 65536 in
set_option maxHeartbeats 40000000 in
theorem comes_1 {Post : Tables → Env → Array Value → State → Outcome → State → Prop} (hpost : ∀ tb e args s v u, (limb_1_1.after args s (.returned v) u = true ∧ limb_1_2.after args s (.returned v) u = true ∧ True) → FrameEnd s (.returned v) u (Jvm.fieldLocs frame_1_writes args s ++ Jvm.arrayLocs frame_1_arrays args s ++ Jvm.staticLocs frame_1_statics s) 40 192 → Post tb e args s (.returned v) u) :
    ArmFor flags0 classFile x code maxLocals ret World_1 tables_1 room_1 Calls_1 rest_1 Pre_1 Post := by
  intro l hfl _ _ p e ha hc hk s m args below hf hA hF happ hP
  obtain ⟨hcalls, hrest, hpre⟩ := hP
  obtain ⟨-, -, -, hnamed, -, -, -, hat⟩ := (Spec.applies_iff hf).mp happ
  obtain ⟨hg, hn⟩ := and_e (Cond.before_iff.mp (show (Jvm.Cond.and given_1 narrow_1).before args s = true from hpre))
  obtain ⟨h1, hr0⟩ := and_e hg
  obtain ⟨ha0, hr1⟩ := and_e hr0
  obtain ⟨ha1, hr2⟩ := and_e hr1
  obtain ⟨ha2, hr3⟩ := and_e hr2
  obtain ⟨ha3, hr4⟩ := and_e hr3
  obtain ⟨ha4, hr5⟩ := and_e hr4
  have ha5 := hr5
  obtain ⟨w0, w1, w2, w3, w4, w5, rfl⟩ : ∃ w0 w1 w2 w3 w4 w5 : Value, args = #[w0, w1, w2, w3, w4, w5] := by
    have hs : args.size = 6 := by simpa [Cond.value, given_1] using h1
    obtain ⟨L⟩ := args
    match L, hs with
    | [w0, w1, w2, w3, w4, w5], _ => exact ⟨w0, w1, w2, w3, w4, w5, rfl⟩
  have hw := fun d (hd : d ∈ tables_1) => atoms_spec (ws := Jvm.Cond.code x code maxLocals ret :: tables_1) hat d (List.mem_cons_of_mem _ hd)
  obtain ⟨i0, e0⟩ := is_v ha0
  obtain rfl : w0 = (.int i0) := Option.some.inj e0
  obtain ⟨i1, e1⟩ := is_v ha1
  obtain rfl : w1 = (.int i1) := Option.some.inj e1
  obtain ⟨i2, e2⟩ := is_v ha2
  obtain rfl : w2 = (.int i2) := Option.some.inj e2
  obtain ⟨i3, e3⟩ := is_v ha3
  obtain rfl : w3 = (.int i3) := Option.some.inj e3
  obtain ⟨i4, e4⟩ := is_v ha4
  obtain rfl : w4 = (.int i4) := Option.some.inj e4
  obtain ⟨i5, e5⟩ := is_v ha5
  obtain rfl : w5 = (.int i5) := Option.some.inj e5
  obtain ⟨n, o, h1, h2, h3, _, L, rfl, ⟨rfl, N⟩, hq⟩ := con_law l s _ hw s.heap.size s.heap (Nat.le_refl _) i0 i1 i2 i3 i4 i5  p e ha hc hk s m _ below hf ((Spec.applies_iff_loose hf).mp happ).1 ⟨rfl, State.Warmed39.refl s, rfl⟩ trivial
  refine ⟨n, _, h1, h2, h3, hpost _ _ _ _ _ _ ⟨Cond.after_iff.mpr rfl, Cond.after_iff.mpr (eq_i res_at (Term.int_eval (1)) rfl), trivial⟩ ⟨hq.1, hq.2.1, (hq.2.2.sift fun y hy => Or.inr (N y hy)).mono (by decide) (by decide)⟩⟩
theorem main_1_1 : Claimed_1_1 := comes_1 fun _ _ _ _ _ _ h hF => ⟨h.1, hF⟩
theorem main_1_2 : Claimed_1_2 := comes_1 fun _ _ _ _ _ _ h hF => ⟨h.2.1, hF⟩
end Jvm.Pilot.@@N@@
namespace Jvm.Pilot.@@N@@
open Jvm Jvm.ClassFile Sem Op Lib Jvm.Free Jvm.Stand Jvm.Pilot.@@N@@.Jvm.D
/-! MADE BY PROGRAM (witnessworld.py) out of the Statement's table words and the real class files: 10 classes; the members and pool entries that the words name. The judged class is class 1, her method 2. -/
namespace start1
open Jvm.ClassFile
def u (s : String) : CpInfo := .utf8 (stringToUtf16 s)
/-- a pool by its gaps: so many unusable entries, then the entry; so many at the end -/
def gap : Nat → List CpInfo → List CpInfo
  | 0, r => r
  | n + 1, r => .unusable :: gap n r
def poolList (es : List (Nat × CpInfo)) (last : Nat) : List CpInfo := es.foldr (fun e r => gap e.1 (e.2 :: r)) (gap last [])
def pool (es : List (Nat × CpInfo)) (last : Nat) : Array CpInfo := ⟨poolList es last⟩
def fileOf (pool : Array CpInfo) (this : Nat) (attrs : Array Attribute := #[]) (ms : Array MethodInfo := #[]) (fl : Nat := 33) (sup : Nat := 0) (ifs : Array Nat := #[]) (fds : Array FieldInfo := #[]) : ClassFile where
  minorVersion := 0
  majorVersion := 65
  constantPool := pool
  accessFlags := fl
  thisClass := this
  superClass := sup
  interfaces := ifs
  fields := fds
  methods := ms
  attributes := attrs
def plain (name : String) (sup : Option ClassId) : Class where
  name := name
  kind := .ordinary
  loader := none
  accessFlags := 33
  super := sup
  interfaces := #[]
  cf := none
  fields := #[]
  methods := #[]
  instanceTypes := #[]
  staticTypes := #[]
  resolved := #[]
  callSites := []
  init := .initialized
  statics := none
  mirror := none

def pool0 : Array CpInfo := pool [(5, u "<init>"), (0, u "()V"), (1, .class_ 10), (1, u "java/lang/Object")] 113

def k0m0 : Method := { name := "<init>", desc := "()V", sig := { parameters := [], returnType := none }, accessFlags := 1, code := none }
/-- java/lang/Object -/
def k0 : Class := { plain "java/lang/Object" none with
  accessFlags := 33
  interfaces := #[]
  cf := some (fileOf pool0 8 #[] #[{ accessFlags := 1, nameIndex := 5, descriptorIndex := 6, attributes := #[] }] 33 0 #[] #[])
  fields := #[]
  methods := #[k0m0]
  instanceTypes := #[]
  staticTypes := #[]
  resolved := Array.replicate 124 none
  statics := none }

def pool1 : Array CpInfo := pool [(2, .class_ 4), (1, u "java/lang/Object"), (0, u "<init>"), (0, u "()V"), (0, .methodref 8 9), (0, .class_ 10), (0, .nameAndType 11 12), (0, u "java/lang/Math"), (0, u "max"), (0, u "(II)I"), (0, .methodref 14 15), (0, .class_ 16), (0, .nameAndType 17 18), (0, u "com/example/lattis/lattis/Walk"), (0, u "adjacency"), (0, u "(I[I[I)[[I"), (0, .methodref 20 21), (0, .class_ 22), (0, .nameAndType 23 24), (0, u "com/example/lattis/lattis/WalkAdjacencyPinLaw"), (0, u "row"), (0, u "([[III[I[I)Z"), (5, u "law"), (0, u "(IIIIII)Z")] 4

def k1m0 : Method := { name := "<init>", desc := "()V", sig := { parameters := [], returnType := none }, accessFlags := 2, code := none }
def k1c1 : Code := { maxStack := 4, maxLocals := 8, code := method_2_code, exceptionTable := #[], attributes := #[] }
def k1m1 : Method := { name := "row", desc := "([[III[I[I)Z", sig := { parameters := [(.array (.array .int)), .int, .int, (.array .int), (.array .int)], returnType := some .boolean }, accessFlags := 10, code := some k1c1 }
def k1c2 : Code := { maxStack := 5, maxLocals := 14, code := code, exceptionTable := #[], attributes := #[] }
def k1m2 : Method := { name := "law", desc := "(IIIIII)Z", sig := { parameters := [.int, .int, .int, .int, .int, .int], returnType := some .boolean }, accessFlags := 9, code := some k1c2 }
/-- com/example/lattis/lattis/WalkAdjacencyPinLaw -/
def k1 : Class := { plain "com/example/lattis/lattis/WalkAdjacencyPinLaw" (some 0) with
  accessFlags := 49
  interfaces := #[]
  cf := some (fileOf pool1 20 #[] #[{ accessFlags := 2, nameIndex := 5, descriptorIndex := 6, attributes := #[] }, { accessFlags := 10, nameIndex := 23, descriptorIndex := 24, attributes := #[] }, { accessFlags := 9, nameIndex := 30, descriptorIndex := 31, attributes := #[] }] 49 2 #[] #[])
  fields := #[]
  methods := #[k1m0, k1m1, k1m2]
  instanceTypes := #[]
  staticTypes := #[]
  resolved := Array.replicate 36 none
  statics := none }

def pool2 : Array CpInfo := pool [(1, .class_ 2), (0, u "java/lang/Math"), (1, .class_ 6), (1, u "java/lang/Object"), (0, u "<init>"), (0, u "()V"), (89, .class_ 100), (1, u "java/lang/Math$RandomNumberGeneratorHolder"), (71, u "negativeZeroFloatBits"), (0, u "J"), (2, u "negativeZeroDoubleBits"), (21, u "max"), (46, u "$assertionsDisabled"), (0, u "Z"), (88, u "(II)I"), (2, u "twoToTheDoubleScaleDown"), (0, u "D"), (4, u "twoToTheDoubleScaleUp"), (9, u "E"), (3, u "PI"), (2, u "TAU"), (2, u "DEGREES_TO_RADIANS"), (0, u "RADIANS_TO_DEGREES")] 94

def k2m0 : Method := { name := "<init>", desc := "()V", sig := { parameters := [], returnType := none }, accessFlags := 2, code := none }
def k2c1 : Code := { maxStack := 2, maxLocals := 2, code := jdk_29_method_65_code, exceptionTable := #[], attributes := #[] }
def k2m1 : Method := { name := "max", desc := "(II)I", sig := { parameters := [.int, .int], returnType := some .int }, accessFlags := 9, code := some k2c1 }
/-- java/lang/Math -/
def k2 : Class := { plain "java/lang/Math" (some 0) with
  accessFlags := 49
  interfaces := #[]
  cf := some (fileOf pool2 1 #[.nestMembers #[98]] #[{ accessFlags := 2, nameIndex := 7, descriptorIndex := 8, attributes := #[] }, { accessFlags := 9, nameIndex := 198, descriptorIndex := 335, attributes := #[] }] 49 4 #[] #[{ accessFlags := 25, nameIndex := 354, descriptorIndex := 339, attributes := #[] }, { accessFlags := 25, nameIndex := 358, descriptorIndex := 339, attributes := #[] }, { accessFlags := 25, nameIndex := 361, descriptorIndex := 339, attributes := #[] }, { accessFlags := 26, nameIndex := 364, descriptorIndex := 339, attributes := #[] }, { accessFlags := 26, nameIndex := 365, descriptorIndex := 339, attributes := #[] }, { accessFlags := 26, nameIndex := 172, descriptorIndex := 173, attributes := #[] }, { accessFlags := 26, nameIndex := 176, descriptorIndex := 173, attributes := #[] }, { accessFlags := 8, nameIndex := 344, descriptorIndex := 339, attributes := #[] }, { accessFlags := 8, nameIndex := 338, descriptorIndex := 339, attributes := #[] }, { accessFlags := 4120, nameIndex := 245, descriptorIndex := 246, attributes := #[] }])
  fields := #[{ name := "E", type := .double, accessFlags := 25, slot := 0, constantValue := 0 }, { name := "PI", type := .double, accessFlags := 25, slot := 1, constantValue := 0 }, { name := "TAU", type := .double, accessFlags := 25, slot := 2, constantValue := 0 }, { name := "DEGREES_TO_RADIANS", type := .double, accessFlags := 26, slot := 3, constantValue := 0 }, { name := "RADIANS_TO_DEGREES", type := .double, accessFlags := 26, slot := 4, constantValue := 0 }, { name := "negativeZeroFloatBits", type := .long, accessFlags := 26, slot := 5, constantValue := 0 }, { name := "negativeZeroDoubleBits", type := .long, accessFlags := 26, slot := 6, constantValue := 0 }, { name := "twoToTheDoubleScaleUp", type := .double, accessFlags := 8, slot := 7, constantValue := 0 }, { name := "twoToTheDoubleScaleDown", type := .double, accessFlags := 8, slot := 8, constantValue := 0 }, { name := "$assertionsDisabled", type := .boolean, accessFlags := 4120, slot := 9, constantValue := 0 }]
  methods := #[k2m0, k2m1]
  instanceTypes := #[]
  staticTypes := #[.double, .double, .double, .double, .double, .long, .long, .double, .double, .boolean]
  resolved := Array.replicate 460 none
  statics := none }

def pool3 : Array CpInfo := pool [(2, .class_ 4), (1, u "java/lang/Object"), (3, .class_ 10), (1, u "com/example/lattis/lattis/Walk"), (0, u "steps"), (0, u "[[I"), (7, u "entered"), (0, u "Ljava/util/BitSet;"), (2, u "order"), (0, u "[I"), (7, .class_ 34), (0, u "com/example/lattis/lattis/Walk$Cone"), (9, u "count"), (19, .class_ 25), (2, u "I"), (19, u "adjacency"), (0, u "(I[I[I)[[I")] 6

def k3c0 : Code := { maxStack := 6, maxLocals := 8, code := prog_26_method_4_code, exceptionTable := #[], attributes := #[] }
def k3m0 : Method := { name := "adjacency", desc := "(I[I[I)[[I", sig := { parameters := [.int, (.array .int), (.array .int)], returnType := some (.array (.array .int)) }, accessFlags := 9, code := some k3c0 }
/-- com/example/lattis/lattis/Walk -/
def k3 : Class := { plain "com/example/lattis/lattis/Walk" (some 0) with
  accessFlags := 49
  interfaces := #[]
  cf := some (fileOf pool3 8 #[.nestMembers #[33]] #[{ accessFlags := 9, nameIndex := 87, descriptorIndex := 88, attributes := #[] }] 49 2 #[] #[{ accessFlags := 18, nameIndex := 11, descriptorIndex := 12, attributes := #[] }, { accessFlags := 18, nameIndex := 20, descriptorIndex := 21, attributes := #[] }, { accessFlags := 18, nameIndex := 24, descriptorIndex := 25, attributes := #[] }, { accessFlags := 2, nameIndex := 44, descriptorIndex := 67, attributes := #[] }])
  fields := #[{ name := "steps", type := (.array (.array .int)), accessFlags := 18, slot := 0, constantValue := 0 }, { name := "entered", type := (.object "java/util/BitSet"), accessFlags := 18, slot := 1, constantValue := 0 }, { name := "order", type := (.array .int), accessFlags := 18, slot := 2, constantValue := 0 }, { name := "count", type := .int, accessFlags := 2, slot := 3, constantValue := 0 }]
  methods := #[k3m0]
  instanceTypes := #[(.array (.array .int)), (.object "java/util/BitSet"), (.array .int), .int]
  staticTypes := #[]
  resolved := Array.replicate 95 none
  statics := none }

def pool4 : Array CpInfo := pool [(1, u "java/lang/Cloneable"), (0, .class_ 1), (0, u "java/lang/Object"), (0, .class_ 3)] 3

/-- java/lang/Cloneable -/
def k4 : Class := { plain "java/lang/Cloneable" (some 0) with
  accessFlags := 1537
  interfaces := #[]
  cf := some (fileOf pool4 2 #[] #[] 1537 4 #[] #[])
  fields := #[]
  methods := #[]
  instanceTypes := #[]
  staticTypes := #[]
  resolved := Array.replicate 8 none
  statics := none }

def pool5 : Array CpInfo := pool [(1, u "java/io/Serializable"), (0, .class_ 1), (0, u "java/lang/Object"), (0, .class_ 3)] 3

/-- java/io/Serializable -/
def k5 : Class := { plain "java/io/Serializable" (some 0) with
  accessFlags := 1537
  interfaces := #[]
  cf := some (fileOf pool5 2 #[] #[] 1537 4 #[] #[])
  fields := #[]
  methods := #[]
  instanceTypes := #[]
  staticTypes := #[]
  resolved := Array.replicate 8 none
  statics := none }

/-- the primitive byte -/
def k6 : Class := { plain "byte" none with kind := .primitive 'B', accessFlags := 0x411 }
/-- [B -/
def k7 : Class := { plain "[B" (some 0) with kind := .array 6 .byte, interfaces := #[4, 5], accessFlags := 1041 }

/-- the primitive int -/
def k8 : Class := { plain "int" none with kind := .primitive 'I', accessFlags := 0x411 }
/-- [I -/
def k9 : Class := { plain "[I" (some 0) with kind := .array 8 .int, interfaces := #[4, 5], accessFlags := 1041 }

def heap : Heap := #[]
def k10 : Class := { plain "[[I" (some 0) with kind := .array 9 (.array .int), interfaces := #[4, 5], accessFlags := 1041 }
def classes : Array Class := #[k0, k1, k2, k3, k4, k5, k6, k7, k8, k9, k10]
def interned : List (Array UInt16 × Addr) := []
def slotsUsed : Nat := 0
def theMethod : MethodId := ⟨1, 2⟩
def args0 : Array Value := #[.int 3, .int 2, .int 5, .int 2, .int 3, .int 1]
def aboutOver (below : List Frame) : State where
  vm := { classes := classes, interned := interned.toArray }
  heap := heap
  slotsUsed := slotsUsed
  threads := #[{ frames := .invoking theMethod args0 :: below }]
def below0 : List Frame := [.native { method := ⟨0, 0⟩, args := #[] }]
def about1 : State := aboutOver below0
def p0 : Program := .bare "" "" ""
def e0 : Env := launch0.env 0 0 0
theorem w_frames : about1.frames = Frame.invoking theMethod args0 :: below0 := rfl
set_option maxRecDepth 65536 in
theorem w_args : argsFit about1.vm theMethod args0 = true := by decide +kernel
set_option maxRecDepth 65536 in
theorem w_heap : heapFits about1 = true := by decide +kernel
set_option maxRecDepth 65536 in
theorem w_runnable : about1.curStatus? = some .runnable := by decide +kernel
set_option maxRecDepth 65536 in
theorem w_alone : about1.alone = true := by decide +kernel
set_option maxRecDepth 65536 in
theorem w_named : about1.methodNamed? x = some theMethod := by decide +kernel
set_option maxRecDepth 65536 in
theorem w_hears : about1.hears theMethod below0 = true := by decide +kernel
set_option maxRecDepth 65536 in
theorem w_ripe : about1.ripe theMethod args0 below0 = true := by decide +kernel
theorem w_running : about1.status = .running := rfl
set_option maxRecDepth 65536 in
theorem w_room : about1.hasRoom e0.platform room_1 = true :=
  launch0.hasRoom_least _ room_1 (by decide +kernel) (by decide +kernel) (by decide +kernel) (by decide +kernel) (by decide +kernel) (by decide +kernel)
theorem allAtoms_all (ts : List Jvm.Cond) (a : Array Jvm.Value) (st : Jvm.State) : (allAtoms ts).before a st = ts.all (fun c => c.before a st) := by
  induction ts with
  | nil => rfl
  | cons c t ih =>
    show (Jvm.Cond.and c (allAtoms t)).before a st = _
    rw [Jvm.Cond.before_and, ih, List.all_cons]
def words1 : List Jvm.Cond := Jvm.Cond.code x code maxLocals ret :: tables_1
/-- a 'code' word, met by the world's own term for the bytes: nothing is compared byte by byte -/
theorem code_word {y : MethodName} {bytes : ByteArray} {mx : Nat} {rt : Option FieldType} {a : Array Value} {s : State} {m : MethodId} {meth : Method} {c : Code} (h1 : s.methodNamed? y = some m) (h2 : s.vm.method? m = some meth) (h3 : meth.code = some c) (h4 : c.code = bytes)
    (h5 : (c.maxLocals == mx && c.exceptionTable.isEmpty && decide (c.maxStack ≤ mostOperands) && decide (meth.sig.returnType = rt) && !meth.locks && decide (parseMethodDescriptor y.desc = some meth.sig)) = true) : (Jvm.Cond.code y bytes mx rt).before a s = true := by
  simp only [Bool.and_eq_true, beq_iff_eq, Bool.not_eq_true', decide_eq_true_eq] at h5
  obtain ⟨⟨⟨⟨⟨g1, g2⟩, g3⟩, g4⟩, g5⟩, g6⟩ := h5
  simp [Cond.before, Cond.holds, Cond.value, h1, h2, h3, h4, g1, g2, g3, g4, g5, g6]
def isCode : Jvm.Cond → Bool
  | .code _ _ _ _ => true
  | _ => false
theorem all_split {L : List Jvm.Cond} {P : Jvm.Cond → Bool} (h1 : L.all (fun c => isCode c || P c) = true) (h2 : ∀ c ∈ L.filter isCode, P c = true) : L.all P = true := by
  refine List.all_eq_true.mpr fun c hc => ?_
  have h := List.all_eq_true.mp h1 c hc
  rcases Bool.eq_false_or_eq_true (isCode c) with hi | hi
  · exact h2 c (List.mem_filter.mpr ⟨hc, hi⟩)
  · simpa [hi] using h
set_option maxRecDepth 65536 in
theorem w_c0 : (Jvm.Cond.code x code maxLocals ret).before args0 about1 = true := code_word (m := ⟨1, 2⟩) (meth := k1m2) (c := k1c2) (by decide +kernel) rfl rfl rfl (by decide +kernel)
set_option maxRecDepth 65536 in
theorem w_c1 : (Jvm.Cond.code ({ cls := "java/lang/Math", name := "max", desc := "(II)I" } : Jvm.MethodName) jdk_29_method_65_code (2 : Nat) (Option.some Jvm.ClassFile.FieldType.int)).before args0 about1 = true := code_word (m := ⟨2, 1⟩) (meth := k2m1) (c := k2c1) (by decide +kernel) rfl rfl rfl (by decide +kernel)
set_option maxRecDepth 65536 in
theorem w_c2 : (Jvm.Cond.code ({ cls := "com/example/lattis/lattis/Walk", name := "adjacency", desc := "(I[I[I)[[I" } : Jvm.MethodName) prog_26_method_4_code (8 : Nat) (Option.some (Jvm.ClassFile.FieldType.array (Jvm.ClassFile.FieldType.array Jvm.ClassFile.FieldType.int)))).before args0 about1 = true := code_word (m := ⟨3, 0⟩) (meth := k3m0) (c := k3c0) (by decide +kernel) rfl rfl rfl (by decide +kernel)
set_option maxRecDepth 65536 in
theorem w_c3 : (Jvm.Cond.code ({ cls := "com/example/lattis/lattis/WalkAdjacencyPinLaw", name := "row", desc := "([[III[I[I)Z" } : Jvm.MethodName) method_2_code (8 : Nat) (Option.some Jvm.ClassFile.FieldType.boolean)).before args0 about1 = true := code_word (m := ⟨1, 1⟩) (meth := k1m1) (c := k1c1) (by decide +kernel) rfl rfl rfl (by decide +kernel)
def codes1 : List Jvm.Cond := [Jvm.Cond.code x code maxLocals ret, Jvm.Cond.code ({ cls := "java/lang/Math", name := "max", desc := "(II)I" } : Jvm.MethodName) jdk_29_method_65_code (2 : Nat) (Option.some Jvm.ClassFile.FieldType.int), Jvm.Cond.code ({ cls := "com/example/lattis/lattis/Walk", name := "adjacency", desc := "(I[I[I)[[I" } : Jvm.MethodName) prog_26_method_4_code (8 : Nat) (Option.some (Jvm.ClassFile.FieldType.array (Jvm.ClassFile.FieldType.array Jvm.ClassFile.FieldType.int))), Jvm.Cond.code ({ cls := "com/example/lattis/lattis/WalkAdjacencyPinLaw", name := "row", desc := "([[III[I[I)Z" } : Jvm.MethodName) method_2_code (8 : Nat) (Option.some Jvm.ClassFile.FieldType.boolean)]
set_option maxRecDepth 65536 in
theorem codes_eq : words1.filter isCode = codes1 := rfl
theorem w_codes : ∀ c ∈ words1.filter isCode, c.before args0 about1 = true := by
  rw [codes_eq]
  intro c hc
  simp only [codes1, List.mem_cons, List.not_mem_nil, or_false] at hc
  rcases hc with rfl | rfl | rfl | rfl
  · exact w_c0
  · exact w_c1
  · exact w_c2
  · exact w_c3
set_option maxRecDepth 65536 in
theorem w_t1 : words1.all (fun c => isCode c || c.before args0 about1) = true := by decide +kernel
theorem w_tables : (allAtoms (Jvm.Cond.code x code maxLocals ret :: tables_1)).before args0 about1 = true := by
  rw [allAtoms_all]
  show words1.all (fun c => c.before args0 about1) = true
  refine all_split ?_ w_codes
  rw [w_t1]
set_option maxRecDepth 65536 in
theorem w_case : (Jvm.Cond.and given_1 narrow_1).before args0 about1 = true := by decide +kernel
theorem w_applies : (headSpec (Jvm.Cond.code x code maxLocals ret :: tables_1) room_1).applies x e0.platform about1 = true :=
  (Spec.applies_iff w_frames).mpr ⟨w_running, w_runnable, w_alone, w_named, w_hears, w_ripe, w_room, w_tables⟩
theorem atStart : AtStart classFile x code maxLocals ret World_1 tables_1 room_1 Calls_1 rest_1 Pre_1 launch0 p0 e0 about1 theMethod args0 below0 :=
  ⟨lists_1, trivial, launch0.admits_env _ _ _, launch0.least_env, fairChoices_fair.cas, fairChoices_fair.clock, w_frames, w_args, w_heap, w_applies, trivial, trivial, w_case⟩
end start1
theorem witness_1 : WitnessClaimed_1 := ⟨start1.p0, start1.e0, start1.about1, start1.theMethod, start1.args0, start1.below0, start1.atStart⟩
end Jvm.Pilot.@@N@@
