import JvmDerived
import JvmDerived.Pilot.@@N@@Statement
import JvmDerived.Pilot.@@N@@Code
set_option linter.unusedVariables false
set_option linter.unusedSimpArgs false
namespace Jvm.OwnGo
open Jvm Jvm.ClassFile Sem Op Lib Jvm.Free Jvm.Stand Jvm.LawKit Jvm.RoadKit Bundle
/-- from A the invocation ends and returns what Q takes; what was written lies at n0 or above -/
def Go (p : Program) (e : Env) (below : List Frame) (s : State) (n0 k n : Nat) (Q : Option Value → Heap → Prop) (A : State) : Prop :=
  ∃ t o, Steps p.tables e below A t ∧ t.status = .running ∧ Ended t below o ∧ ∃ v L, o = .returned v ∧ (Q v t.heap ∧ Fr n0 L) ∧ FrameEnd s o t L k n
/-- what stays as it is through a walk -/
def Ctx (p : Program) (s : State) (m : MethodId) (meth : Method) (c : Code) (Z : State) (a0 : Array Value) (ws : List Jvm.Cond) (own nm : String) (bytes : ByteArray) (ml : Nat) (ret : Option FieldType) : Prop :=
  p.tables.exec = Jvm.exec ∧ Z.Warmed39 s.vm ∧ (∀ d ∈ ws, d.before a0 Z = true) ∧ s.vm.findClass own = some m.cls ∧ meth.name = nm ∧ c.code = bytes ∧ c.maxLocals = ml ∧ meth.sig.returnType = ret ∧ meth.locks = false
/-- where a walk stands -/
def St (p : Program) (l : Launch) (e : Env) (R : Room) (s : State) (m : MethodId) (args : Array Value) (below : List Frame) (meth : Method) (c : Code) (n0 : Nat) (T : State) (h : Heap) (cells slots : Nat) : Prop :=
  T.heap = h ∧ n0 ≤ s.heap.size ∧ ∃ locs, Fr n0 locs ∧ Stand p l e R s m args below meth c T locs cells slots
/-- an array: its elements, one by one -/
def AR (Z : State) (h : Heap) (a : Addr) (ty : FieldType) (vs : List Value) : Prop := ∃ c : Cell, Arr Z h a c ty ∧ c.slots = vs.toArray ∧ vs.length < 2 ^ 31
/-- a method's contract at one heap -/
def Con (l : Launch) (Z : State) (y : MethodName) (bytes : ByteArray) (ml : Nat) (ret : Option FieldType) (wx : List Jvm.Cond) (rm : Room) (n0 : Nat) (as : Array Value) (h0 : Heap) (Q : Option Value → Heap → Prop) : Prop :=
  MetFree l y (head1 (Jvm.Cond.code y bytes ml ret :: wx) rm) (fun a U => a = as ∧ Z.Warmed39 U.vm ∧ U.heap = h0) (fun _ _ _ _ _ => True) (fun _ U o U' => ∃ v L, o = .returned v ∧ (Q v U'.heap ∧ Fr n0 L) ∧ FrameEnd U o U' L rm.cells rm.slots)
section One
variable {p : Program} {l : Launch} {e : Env} {R : Room} {s : State} {m : MethodId} {args : Array Value} {below : List Frame} {meth : Method} {c : Code} {T : State} {h h' : Heap} {n0 cells slots k n : Nat} {Q : Option Value → Heap → Prop} {A B Z : State} {a0 : Array Value} {ws : List Jvm.Cond} {own nm : String} {bytes : ByteArray} {ml pc : Nat} {ret : Option FieldType} {Ls : Array Slot} {rest stk : List Value}
def ius (x y : Int32) : Int32 := (x.toUInt32 >>> (y &&& 31).toUInt32).toInt32
def lus (x : Int64) (y : Int32) : Int64 := (x.toUInt64 >>> (y &&& 0x3f).toInt64.toUInt64).toInt64
theorem tm0 (x d : Int) : x.tmod d = 0 ↔ x % d = 0 := ⟨fun h => Int.emod_eq_zero_of_dvd (Int.dvd_of_tmod_eq_zero h), fun h => Int.tmod_eq_zero_of_dvd (Int.dvd_of_emod_eq_zero h)⟩
theorem irr (x : Int32) : ¬ x < x := by rw [Int32.lt_iff_toInt_lt]; omega
theorem wd {ws : List Jvm.Cond} (i : Nat) {d : Jvm.Cond} (q : ws[i]? = some d) : d ∈ ws := List.mem_of_getElem? q
theorem Ctx.hx (C : Ctx p s m meth c Z a0 ws own nm bytes ml ret) : p.tables.exec = Jvm.exec := C.1
theorem Ctx.hZ (C : Ctx p s m meth c Z a0 ws own nm bytes ml ret) : Z.Warmed39 s.vm := C.2.1
theorem Ctx.w (C : Ctx p s m meth c Z a0 ws own nm bytes ml ret) {d : Jvm.Cond} (q : d ∈ ws) : d.before a0 Z = true := C.2.2.1 d q
theorem Ctx.hown (C : Ctx p s m meth c Z a0 ws own nm bytes ml ret) : s.vm.findClass own = some m.cls := C.2.2.2.1
theorem Ctx.hnm (C : Ctx p s m meth c Z a0 ws own nm bytes ml ret) : meth.name = nm := C.2.2.2.2.1
theorem Ctx.hby (C : Ctx p s m meth c Z a0 ws own nm bytes ml ret) : c.code = bytes := C.2.2.2.2.2.1
theorem Ctx.hml (C : Ctx p s m meth c Z a0 ws own nm bytes ml ret) : c.maxLocals = ml := C.2.2.2.2.2.2.1
theorem Ctx.hret (C : Ctx p s m meth c Z a0 ws own nm bytes ml ret) : meth.sig.returnType = ret := C.2.2.2.2.2.2.2.1
theorem Ctx.hlk (C : Ctx p s m meth c Z a0 ws own nm bytes ml ret) : meth.locks = false := C.2.2.2.2.2.2.2.2
theorem St.here (X : St p l e R s m args below meth c n0 T h cells slots) : At T m c below := by obtain ⟨-, -, _, -, X⟩ := X; exact X.here
theorem St.size (X : St p l e R s m args below meth c n0 T h cells slots) : n0 ≤ h.size := by
  obtain ⟨rfl, hz, _, -, X⟩ := X
  exact Nat.le_trans hz X.same.2.1
theorem St.mono (X : St p l e R s m args below meth c n0 T h cells slots) {cells' slots' : Nat} (h1 : cells ≤ cells') (h2 : slots ≤ slots') : St p l e R s m args below meth c n0 T h cells' slots' := by
  obtain ⟨e0, hz, locs, N, X⟩ := X
  exact ⟨e0, hz, locs, N, { X with same := X.same.mono h1 h2 }⟩
theorem Go.st (q : ∀ t, Steps p.tables e below B t → Steps p.tables e below A t) (g : Go p e below s n0 k n Q B) : Go p e below s n0 k n Q A := by
  obtain ⟨t, o, h1, r⟩ := g
  exact ⟨t, o, q t h1, r⟩
theorem Go.tr (q : Steps p.tables e below A B) (g : Go p e below s n0 k n Q B) : Go p e below s n0 k n Q A := Go.st (fun _ r => q.trans r) g
theorem Con.mk {y : MethodName} {wx : List Jvm.Cond} {rm : Room} {as : Array Value} {h0 : Heap} (hp : plainFor y = true) (hw : ∀ d ∈ ws, d.before a0 Z = true) (hz : n0 ≤ h0.size)
    (H : ∀ (p : Program) (e : Env) (s : State) (m : MethodId) (below : List Frame) (meth : Method) (c : Code) (T : State), Ctx p s m meth c Z a0 ws y.cls y.name bytes ml ret → St p l e rm s m as below meth c n0 T h0 0 0 → Go p e below s n0 rm.cells rm.slots Q (T.setTop (entryFrame m as ml))) : Con l Z y bytes ml ret wx rm n0 as h0 Q := by
  refine MetFree.of_bodySF hp hisR ?_
  intro p e s m args below meth c s₁ Bd hml hP hK
  obtain ⟨rfl, hZ, hh⟩ := hP
  have hE : s₁.heap = h0 := by rw [← hh, Bd.state]; rfl
  exact H p e s m below meth c s₁ ⟨Bd.exec, hZ, hw, findClass_of_methodNamed Bd.named, (name_of_methodNamed Bd.named Bd.method).1, Bd.bytes, hml, Bd.returns, BodyLoose.notSynchronized Bd⟩ ⟨hE, by rw [hh]; exact hz, [], Fr.nil n0, Stand.of_body Bd⟩
theorem Go.retAny (C : Ctx p s m meth c Z a0 ws own nm bytes ml ret) (X : St p l e R s m args below meth c n0 T h cells slots) {w : Value} {t : FieldType} {i : Instr} (hret : ret = some t) (hn : narrow t w = w)
    (hi : (i = .ireturn ∧ (t = .int ∨ t = .boolean ∨ t = .byte ∨ t = .char ∨ t = .short) ∧ ∃ z, w = .int z) ∨ (i = .lreturn ∧ t = .long ∧ ∃ z, w = .long z) ∨ (i = .dreturn ∧ t = .double ∧ ∃ z, w = .double z) ∨ (i = .freturn ∧ t = .float ∧ ∃ z, w = .float z) ∨ (i = .areturn ∧ t.isReference = true ∧ w.isRef = true))
    (hd : decode bytes pc = .ok (i, 1)) (hQ : Q (some w) h) (hk : cells ≤ k) (hs : slots ≤ n) : Go p e below s n0 k n Q (T.setTop (mkF m pc Ls (w :: rest))) := by
  obtain ⟨rfl, hz, locs, N, X⟩ := X
  obtain ⟨fs, hr, hrun, hended, hW, hsame⟩ := X.leave (v := some w) (fun q => by rw [C.hret, hret] at q; cases q) C.hlk
  exact ⟨_, _, retOut X C.hx (C.hret.trans hret) hn hi (hb C.hby hd) hr, hrun, hended, _, _, rfl, ⟨hQ, N⟩, ⟨_, rfl⟩, hW, hsame.mono hk hs⟩
theorem Go.retI (C : Ctx p s m meth c Z a0 ws own nm bytes ml (some .int)) (X : St p l e R s m args below meth c n0 T h cells slots) {z : Int32} (hd : decode bytes pc = .ok (.ireturn, 1)) (hQ : Q (some (.int z)) h) (hk : cells ≤ k) (hs : slots ≤ n) : Go p e below s n0 k n Q (T.setTop (mkF m pc Ls (.int z :: rest))) :=
  Go.retAny C X rfl rfl (Or.inl ⟨rfl, Or.inl rfl, _, rfl⟩) hd hQ hk hs
theorem Go.retZ (C : Ctx p s m meth c Z a0 ws own nm bytes ml (some .boolean)) (X : St p l e R s m args below meth c n0 T h cells slots) {z : Int32} (hz : z = 0 ∨ z = 1) (hd : decode bytes pc = .ok (.ireturn, 1)) (hQ : Q (some (.int z)) h) (hk : cells ≤ k) (hs : slots ≤ n) : Go p e below s n0 k n Q (T.setTop (mkF m pc Ls (.int z :: rest))) :=
  Go.retAny C X rfl (by rcases hz with rfl | rfl <;> rfl) (Or.inl ⟨rfl, Or.inr (Or.inl rfl), _, rfl⟩) hd hQ hk hs
theorem Go.retJ (C : Ctx p s m meth c Z a0 ws own nm bytes ml (some .long)) (X : St p l e R s m args below meth c n0 T h cells slots) {z : Int64} (hd : decode bytes pc = .ok (.lreturn, 1)) (hQ : Q (some (.long z)) h) (hk : cells ≤ k) (hs : slots ≤ n) : Go p e below s n0 k n Q (T.setTop (mkF m pc Ls (.long z :: rest))) :=
  Go.retAny C X rfl rfl (Or.inr (Or.inl ⟨rfl, rfl, _, rfl⟩)) hd hQ hk hs
theorem Go.retA {t : FieldType} (C : Ctx p s m meth c Z a0 ws own nm bytes ml (some t)) (X : St p l e R s m args below meth c n0 T h cells slots) {v : Value} (ht : t.isReference = true) (hv : v.isRef = true) (hd : decode bytes pc = .ok (.areturn, 1)) (hQ : Q (some v) h) (hk : cells ≤ k) (hs : slots ≤ n) : Go p e below s n0 k n Q (T.setTop (mkF m pc Ls (v :: rest))) :=
  Go.retAny C X rfl (by cases t <;> cases v <;> first | rfl | (simp [FieldType.isReference] at ht; done) | (simp [Value.isRef] at hv; done)) (Or.inr (Or.inr (Or.inr (Or.inr ⟨rfl, ht, hv⟩)))) hd hQ hk hs
theorem Go.retV (C : Ctx p s m meth c Z a0 ws own nm bytes ml none) (X : St p l e R s m args below meth c n0 T h cells slots) (hd : decode bytes pc = .ok (.return_, 1)) (hQ : Q none h) (hk : cells ≤ k) (hs : slots ≤ n) : Go p e below s n0 k n Q (T.setTop (mkF m pc Ls [])) := by
  obtain ⟨rfl, hz, locs, N, X⟩ := X
  obtain ⟨fs, hr, hrun, hended, hW, hsame⟩ := X.leave (v := none) (fun _ => rfl) C.hlk
  exact ⟨_, _, X.returnOut C.hx C.hret (hb C.hby hd) hr, hrun, hended, _, _, rfl, ⟨hQ, N⟩, ⟨_, rfl⟩, hW, hsame.mono hk hs⟩
theorem Go.if_eq (C : Ctx p s m meth c Z a0 ws own nm bytes ml ret) (X : St p l e R s m args below meth c n0 T h cells slots) {x : Int32} {o : Int} {pc' : Nat} (hd : decode bytes pc = .ok (.ifCond .eq o, 3)) (ho : 0 ≤ (pc : Int) + o) (hp : ((pc : Int) + o).toNat = pc') (Y : x = 0 → Go p e below s n0 k n Q (T.setTop (mkF m pc' Ls rest))) (N : ¬ x = 0 → Go p e below s n0 k n Q (T.setTop (mkF m (pc + 3) Ls rest))) : Go p e below s n0 k n Q (T.setTop (mkF m pc Ls (.int x :: rest))) := by
  by_cases q : x = 0
  · exact Go.st (fun _ => XS.ifYes X.here C.hx rfl rfl (hb C.hby hd) rfl (by simpa [ifCond.holds] using q) ho hp) (Y q)
  · exact Go.st (fun _ => XS.ifNo X.here C.hx rfl (hb C.hby hd) rfl (by simpa [ifCond.holds] using q) ) (N q)
theorem Go.icmp_eq (C : Ctx p s m meth c Z a0 ws own nm bytes ml ret) (X : St p l e R s m args below meth c n0 T h cells slots) {x y : Int32} {o : Int} {pc' : Nat} (hd : decode bytes pc = .ok (.if_icmp .eq o, 3)) (ho : 0 ≤ (pc : Int) + o) (hp : ((pc : Int) + o).toNat = pc') (Y : x = y → Go p e below s n0 k n Q (T.setTop (mkF m pc' Ls rest))) (N : ¬ x = y → Go p e below s n0 k n Q (T.setTop (mkF m (pc + 3) Ls rest))) : Go p e below s n0 k n Q (T.setTop (mkF m pc Ls (.int y :: .int x :: rest))) := by
  by_cases q : x = y
  · exact Go.st (fun _ => XS.icmpYes X.here C.hx rfl rfl (hb C.hby hd) rfl (by simpa [if_icmp.holds] using q) ho hp) (Y q)
  · exact Go.st (fun _ => XS.icmpNo X.here C.hx rfl (hb C.hby hd) rfl (by simpa [if_icmp.holds] using q) ) (N q)
theorem Go.if_ne (C : Ctx p s m meth c Z a0 ws own nm bytes ml ret) (X : St p l e R s m args below meth c n0 T h cells slots) {x : Int32} {o : Int} {pc' : Nat} (hd : decode bytes pc = .ok (.ifCond .ne o, 3)) (ho : 0 ≤ (pc : Int) + o) (hp : ((pc : Int) + o).toNat = pc') (Y : ¬ x = 0 → Go p e below s n0 k n Q (T.setTop (mkF m pc' Ls rest))) (N : x = 0 → Go p e below s n0 k n Q (T.setTop (mkF m (pc + 3) Ls rest))) : Go p e below s n0 k n Q (T.setTop (mkF m pc Ls (.int x :: rest))) := by
  by_cases q : x = 0
  · exact Go.st (fun _ => XS.ifNo X.here C.hx rfl (hb C.hby hd) rfl (by simpa [ifCond.holds] using q) ) (N q)
  · exact Go.st (fun _ => XS.ifYes X.here C.hx rfl rfl (hb C.hby hd) rfl (by simpa [ifCond.holds] using q) ho hp) (Y q)
theorem Go.icmp_ne (C : Ctx p s m meth c Z a0 ws own nm bytes ml ret) (X : St p l e R s m args below meth c n0 T h cells slots) {x y : Int32} {o : Int} {pc' : Nat} (hd : decode bytes pc = .ok (.if_icmp .ne o, 3)) (ho : 0 ≤ (pc : Int) + o) (hp : ((pc : Int) + o).toNat = pc') (Y : ¬ x = y → Go p e below s n0 k n Q (T.setTop (mkF m pc' Ls rest))) (N : x = y → Go p e below s n0 k n Q (T.setTop (mkF m (pc + 3) Ls rest))) : Go p e below s n0 k n Q (T.setTop (mkF m pc Ls (.int y :: .int x :: rest))) := by
  by_cases q : x = y
  · exact Go.st (fun _ => XS.icmpNo X.here C.hx rfl (hb C.hby hd) rfl (by simpa [if_icmp.holds] using q) ) (N q)
  · exact Go.st (fun _ => XS.icmpYes X.here C.hx rfl rfl (hb C.hby hd) rfl (by simpa [if_icmp.holds] using q) ho hp) (Y q)
theorem Go.if_lt (C : Ctx p s m meth c Z a0 ws own nm bytes ml ret) (X : St p l e R s m args below meth c n0 T h cells slots) {x : Int32} {o : Int} {pc' : Nat} (hd : decode bytes pc = .ok (.ifCond .lt o, 3)) (ho : 0 ≤ (pc : Int) + o) (hp : ((pc : Int) + o).toNat = pc') (Y : x < 0 → Go p e below s n0 k n Q (T.setTop (mkF m pc' Ls rest))) (N : ¬ x < 0 → Go p e below s n0 k n Q (T.setTop (mkF m (pc + 3) Ls rest))) : Go p e below s n0 k n Q (T.setTop (mkF m pc Ls (.int x :: rest))) := by
  by_cases q : x < 0
  · exact Go.st (fun _ => XS.ifYes X.here C.hx rfl rfl (hb C.hby hd) rfl (by simpa [ifCond.holds] using q) ho hp) (Y q)
  · exact Go.st (fun _ => XS.ifNo X.here C.hx rfl (hb C.hby hd) rfl (by simpa [ifCond.holds] using q) ) (N q)
theorem Go.icmp_lt (C : Ctx p s m meth c Z a0 ws own nm bytes ml ret) (X : St p l e R s m args below meth c n0 T h cells slots) {x y : Int32} {o : Int} {pc' : Nat} (hd : decode bytes pc = .ok (.if_icmp .lt o, 3)) (ho : 0 ≤ (pc : Int) + o) (hp : ((pc : Int) + o).toNat = pc') (Y : x < y → Go p e below s n0 k n Q (T.setTop (mkF m pc' Ls rest))) (N : ¬ x < y → Go p e below s n0 k n Q (T.setTop (mkF m (pc + 3) Ls rest))) : Go p e below s n0 k n Q (T.setTop (mkF m pc Ls (.int y :: .int x :: rest))) := by
  by_cases q : x < y
  · exact Go.st (fun _ => XS.icmpYes X.here C.hx rfl rfl (hb C.hby hd) rfl (by simpa [if_icmp.holds] using q) ho hp) (Y q)
  · exact Go.st (fun _ => XS.icmpNo X.here C.hx rfl (hb C.hby hd) rfl (by simpa [if_icmp.holds] using q) ) (N q)
theorem Go.if_ge (C : Ctx p s m meth c Z a0 ws own nm bytes ml ret) (X : St p l e R s m args below meth c n0 T h cells slots) {x : Int32} {o : Int} {pc' : Nat} (hd : decode bytes pc = .ok (.ifCond .ge o, 3)) (ho : 0 ≤ (pc : Int) + o) (hp : ((pc : Int) + o).toNat = pc') (Y : ¬ x < 0 → Go p e below s n0 k n Q (T.setTop (mkF m pc' Ls rest))) (N : x < 0 → Go p e below s n0 k n Q (T.setTop (mkF m (pc + 3) Ls rest))) : Go p e below s n0 k n Q (T.setTop (mkF m pc Ls (.int x :: rest))) := by
  by_cases q : x < 0
  · exact Go.st (fun _ => XS.ifNo X.here C.hx rfl (hb C.hby hd) rfl (by simpa [ifCond.holds, Int32.not_lt] using q) ) (N q)
  · exact Go.st (fun _ => XS.ifYes X.here C.hx rfl rfl (hb C.hby hd) rfl (by simpa [ifCond.holds, Int32.not_lt] using q) ho hp) (Y q)
theorem Go.icmp_ge (C : Ctx p s m meth c Z a0 ws own nm bytes ml ret) (X : St p l e R s m args below meth c n0 T h cells slots) {x y : Int32} {o : Int} {pc' : Nat} (hd : decode bytes pc = .ok (.if_icmp .ge o, 3)) (ho : 0 ≤ (pc : Int) + o) (hp : ((pc : Int) + o).toNat = pc') (Y : ¬ x < y → Go p e below s n0 k n Q (T.setTop (mkF m pc' Ls rest))) (N : x < y → Go p e below s n0 k n Q (T.setTop (mkF m (pc + 3) Ls rest))) : Go p e below s n0 k n Q (T.setTop (mkF m pc Ls (.int y :: .int x :: rest))) := by
  by_cases q : x < y
  · exact Go.st (fun _ => XS.icmpNo X.here C.hx rfl (hb C.hby hd) rfl (by simpa [if_icmp.holds, Int32.not_lt] using q) ) (N q)
  · exact Go.st (fun _ => XS.icmpYes X.here C.hx rfl rfl (hb C.hby hd) rfl (by simpa [if_icmp.holds, Int32.not_lt] using q) ho hp) (Y q)
theorem Go.if_gt (C : Ctx p s m meth c Z a0 ws own nm bytes ml ret) (X : St p l e R s m args below meth c n0 T h cells slots) {x : Int32} {o : Int} {pc' : Nat} (hd : decode bytes pc = .ok (.ifCond .gt o, 3)) (ho : 0 ≤ (pc : Int) + o) (hp : ((pc : Int) + o).toNat = pc') (Y : 0 < x → Go p e below s n0 k n Q (T.setTop (mkF m pc' Ls rest))) (N : ¬ 0 < x → Go p e below s n0 k n Q (T.setTop (mkF m (pc + 3) Ls rest))) : Go p e below s n0 k n Q (T.setTop (mkF m pc Ls (.int x :: rest))) := by
  by_cases q : 0 < x
  · exact Go.st (fun _ => XS.ifYes X.here C.hx rfl rfl (hb C.hby hd) rfl (by simpa [ifCond.holds] using q) ho hp) (Y q)
  · exact Go.st (fun _ => XS.ifNo X.here C.hx rfl (hb C.hby hd) rfl (by simpa [ifCond.holds] using q) ) (N q)
theorem Go.icmp_gt (C : Ctx p s m meth c Z a0 ws own nm bytes ml ret) (X : St p l e R s m args below meth c n0 T h cells slots) {x y : Int32} {o : Int} {pc' : Nat} (hd : decode bytes pc = .ok (.if_icmp .gt o, 3)) (ho : 0 ≤ (pc : Int) + o) (hp : ((pc : Int) + o).toNat = pc') (Y : y < x → Go p e below s n0 k n Q (T.setTop (mkF m pc' Ls rest))) (N : ¬ y < x → Go p e below s n0 k n Q (T.setTop (mkF m (pc + 3) Ls rest))) : Go p e below s n0 k n Q (T.setTop (mkF m pc Ls (.int y :: .int x :: rest))) := by
  by_cases q : y < x
  · exact Go.st (fun _ => XS.icmpYes X.here C.hx rfl rfl (hb C.hby hd) rfl (by simpa [if_icmp.holds] using q) ho hp) (Y q)
  · exact Go.st (fun _ => XS.icmpNo X.here C.hx rfl (hb C.hby hd) rfl (by simpa [if_icmp.holds] using q) ) (N q)
theorem Go.if_le (C : Ctx p s m meth c Z a0 ws own nm bytes ml ret) (X : St p l e R s m args below meth c n0 T h cells slots) {x : Int32} {o : Int} {pc' : Nat} (hd : decode bytes pc = .ok (.ifCond .le o, 3)) (ho : 0 ≤ (pc : Int) + o) (hp : ((pc : Int) + o).toNat = pc') (Y : ¬ 0 < x → Go p e below s n0 k n Q (T.setTop (mkF m pc' Ls rest))) (N : 0 < x → Go p e below s n0 k n Q (T.setTop (mkF m (pc + 3) Ls rest))) : Go p e below s n0 k n Q (T.setTop (mkF m pc Ls (.int x :: rest))) := by
  by_cases q : 0 < x
  · exact Go.st (fun _ => XS.ifNo X.here C.hx rfl (hb C.hby hd) rfl (by simpa [ifCond.holds, Int32.not_lt] using q) ) (N q)
  · exact Go.st (fun _ => XS.ifYes X.here C.hx rfl rfl (hb C.hby hd) rfl (by simpa [ifCond.holds, Int32.not_lt] using q) ho hp) (Y q)
theorem Go.icmp_le (C : Ctx p s m meth c Z a0 ws own nm bytes ml ret) (X : St p l e R s m args below meth c n0 T h cells slots) {x y : Int32} {o : Int} {pc' : Nat} (hd : decode bytes pc = .ok (.if_icmp .le o, 3)) (ho : 0 ≤ (pc : Int) + o) (hp : ((pc : Int) + o).toNat = pc') (Y : ¬ y < x → Go p e below s n0 k n Q (T.setTop (mkF m pc' Ls rest))) (N : y < x → Go p e below s n0 k n Q (T.setTop (mkF m (pc + 3) Ls rest))) : Go p e below s n0 k n Q (T.setTop (mkF m pc Ls (.int y :: .int x :: rest))) := by
  by_cases q : y < x
  · exact Go.st (fun _ => XS.icmpNo X.here C.hx rfl (hb C.hby hd) rfl (by simpa [if_icmp.holds, Int32.not_lt] using q) ) (N q)
  · exact Go.st (fun _ => XS.icmpYes X.here C.hx rfl rfl (hb C.hby hd) rfl (by simpa [if_icmp.holds, Int32.not_lt] using q) ho hp) (Y q)
theorem Go.lif_eq (C : Ctx p s m meth c Z a0 ws own nm bytes ml ret) (X : St p l e R s m args below meth c n0 T h cells slots) {x y : Int64} {o : Int} {pc' : Nat} (hd : decode bytes pc = .ok (.ifCond .eq o, 3)) (ho : 0 ≤ (pc : Int) + o) (hp : ((pc : Int) + o).toNat = pc') (Y : x = y → Go p e below s n0 k n Q (T.setTop (mkF m pc' Ls rest))) (N : ¬ x = y → Go p e below s n0 k n Q (T.setTop (mkF m (pc + 3) Ls rest))) : Go p e below s n0 k n Q (T.setTop (mkF m pc Ls (.int (lcmpW x y) :: rest))) := by
  have q := lc_eq x y
  rw [← lcW] at q
  exact Go.if_eq C X hd ho hp (fun r => Y (q.mp r)) (fun r => N (fun u => r (q.mpr u)))
theorem Go.lif_ne (C : Ctx p s m meth c Z a0 ws own nm bytes ml ret) (X : St p l e R s m args below meth c n0 T h cells slots) {x y : Int64} {o : Int} {pc' : Nat} (hd : decode bytes pc = .ok (.ifCond .ne o, 3)) (ho : 0 ≤ (pc : Int) + o) (hp : ((pc : Int) + o).toNat = pc') (Y : ¬ x = y → Go p e below s n0 k n Q (T.setTop (mkF m pc' Ls rest))) (N : x = y → Go p e below s n0 k n Q (T.setTop (mkF m (pc + 3) Ls rest))) : Go p e below s n0 k n Q (T.setTop (mkF m pc Ls (.int (lcmpW x y) :: rest))) := by
  have q := lc_eq x y
  rw [← lcW] at q
  exact Go.if_ne C X hd ho hp (fun r => Y (fun u => r (q.mpr u))) (fun r => N (q.mp r))
theorem Go.lif_lt (C : Ctx p s m meth c Z a0 ws own nm bytes ml ret) (X : St p l e R s m args below meth c n0 T h cells slots) {x y : Int64} {o : Int} {pc' : Nat} (hd : decode bytes pc = .ok (.ifCond .lt o, 3)) (ho : 0 ≤ (pc : Int) + o) (hp : ((pc : Int) + o).toNat = pc') (Y : x < y → Go p e below s n0 k n Q (T.setTop (mkF m pc' Ls rest))) (N : ¬ x < y → Go p e below s n0 k n Q (T.setTop (mkF m (pc + 3) Ls rest))) : Go p e below s n0 k n Q (T.setTop (mkF m pc Ls (.int (lcmpW x y) :: rest))) := by
  have q := lc_lt x y
  rw [← lcW] at q
  exact Go.if_lt C X hd ho hp (fun r => Y (q.mp r)) (fun r => N (fun u => r (q.mpr u)))
theorem Go.lif_ge (C : Ctx p s m meth c Z a0 ws own nm bytes ml ret) (X : St p l e R s m args below meth c n0 T h cells slots) {x y : Int64} {o : Int} {pc' : Nat} (hd : decode bytes pc = .ok (.ifCond .ge o, 3)) (ho : 0 ≤ (pc : Int) + o) (hp : ((pc : Int) + o).toNat = pc') (Y : ¬ x < y → Go p e below s n0 k n Q (T.setTop (mkF m pc' Ls rest))) (N : x < y → Go p e below s n0 k n Q (T.setTop (mkF m (pc + 3) Ls rest))) : Go p e below s n0 k n Q (T.setTop (mkF m pc Ls (.int (lcmpW x y) :: rest))) := by
  have q := lc_lt x y
  rw [← lcW] at q
  exact Go.if_ge C X hd ho hp (fun r => Y (fun u => r (q.mpr u))) (fun r => N (q.mp r))
theorem Go.lif_gt (C : Ctx p s m meth c Z a0 ws own nm bytes ml ret) (X : St p l e R s m args below meth c n0 T h cells slots) {x y : Int64} {o : Int} {pc' : Nat} (hd : decode bytes pc = .ok (.ifCond .gt o, 3)) (ho : 0 ≤ (pc : Int) + o) (hp : ((pc : Int) + o).toNat = pc') (Y : y < x → Go p e below s n0 k n Q (T.setTop (mkF m pc' Ls rest))) (N : ¬ y < x → Go p e below s n0 k n Q (T.setTop (mkF m (pc + 3) Ls rest))) : Go p e below s n0 k n Q (T.setTop (mkF m pc Ls (.int (lcmpW x y) :: rest))) := by
  have q := lc_gt x y
  rw [← lcW] at q
  exact Go.if_gt C X hd ho hp (fun r => Y (q.mp r)) (fun r => N (fun u => r (q.mpr u)))
theorem Go.lif_le (C : Ctx p s m meth c Z a0 ws own nm bytes ml ret) (X : St p l e R s m args below meth c n0 T h cells slots) {x y : Int64} {o : Int} {pc' : Nat} (hd : decode bytes pc = .ok (.ifCond .le o, 3)) (ho : 0 ≤ (pc : Int) + o) (hp : ((pc : Int) + o).toNat = pc') (Y : ¬ y < x → Go p e below s n0 k n Q (T.setTop (mkF m pc' Ls rest))) (N : y < x → Go p e below s n0 k n Q (T.setTop (mkF m (pc + 3) Ls rest))) : Go p e below s n0 k n Q (T.setTop (mkF m pc Ls (.int (lcmpW x y) :: rest))) := by
  have q := lc_gt x y
  rw [← lcW] at q
  exact Go.if_le C X hd ho hp (fun r => Y (fun u => r (q.mpr u))) (fun r => N (q.mp r))
theorem Go.acmp_eq (C : Ctx p s m meth c Z a0 ws own nm bytes ml ret) (X : St p l e R s m args below meth c n0 T h cells slots) {x y : Value} (h1 : x.isRef = true) (h2 : y.isRef = true) {o : Int} {pc' : Nat} (hd : decode bytes pc = .ok (.if_acmp .eq o, 3)) (ho : 0 ≤ (pc : Int) + o) (hp : ((pc : Int) + o).toNat = pc') (Y : x = y → Go p e below s n0 k n Q (T.setTop (mkF m pc' Ls rest))) (N : ¬ x = y → Go p e below s n0 k n Q (T.setTop (mkF m (pc + 3) Ls rest))) : Go p e below s n0 k n Q (T.setTop (mkF m pc Ls (y :: x :: rest))) := by
  obtain ⟨-, -, _, -, X⟩ := X
  by_cases q : x = y
  · exact Go.st (fun _ => Jvm.RoadKit.acmp (g := mkF m pc Ls (y :: x :: rest)) X C.hx rfl h1 h2 (same := true) rfl (hb C.hby hd) rfl (decide_eq_true q) ho (by rw [← hp]; rfl)) (Y q)
  · exact Go.st (fun _ => Jvm.RoadKit.acmp (g := mkF m pc Ls (y :: x :: rest)) X C.hx rfl h1 h2 (same := false) rfl (hb C.hby hd) rfl (decide_eq_false q) ho (by rfl)) (N q)
theorem Go.acmp_ne (C : Ctx p s m meth c Z a0 ws own nm bytes ml ret) (X : St p l e R s m args below meth c n0 T h cells slots) {x y : Value} (h1 : x.isRef = true) (h2 : y.isRef = true) {o : Int} {pc' : Nat} (hd : decode bytes pc = .ok (.if_acmp .ne o, 3)) (ho : 0 ≤ (pc : Int) + o) (hp : ((pc : Int) + o).toNat = pc') (Y : ¬ x = y → Go p e below s n0 k n Q (T.setTop (mkF m pc' Ls rest))) (N : x = y → Go p e below s n0 k n Q (T.setTop (mkF m (pc + 3) Ls rest))) : Go p e below s n0 k n Q (T.setTop (mkF m pc Ls (y :: x :: rest))) := by
  obtain ⟨-, -, _, -, X⟩ := X
  by_cases q : x = y
  · exact Go.st (fun _ => Jvm.RoadKit.acmp (g := mkF m pc Ls (y :: x :: rest)) X C.hx rfl h1 h2 (same := true) rfl (hb C.hby hd) rfl (decide_eq_true q) ho (by rfl)) (N q)
  · exact Go.st (fun _ => Jvm.RoadKit.acmp (g := mkF m pc Ls (y :: x :: rest)) X C.hx rfl h1 h2 (same := false) rfl (hb C.hby hd) rfl (decide_eq_false q) ho (by rw [← hp]; rfl)) (Y q)
theorem Go.getF (C : Ctx p s m meth c Z a0 ws own nm bytes ml ret) (X : St p l e R s m args below meth c n0 T h cells slots) {O n1 d : String} {i : Nat} {a : Addr} {v : Value} (w : Jvm.Cond.fieldLink own i O n1 d ∈ ws) (F : Fld Z h a O n1 d v) (hd : decode bytes pc = .ok (.getfield i, 3)) (K : ∀ T', St p l e R s m args below meth c n0 T' h cells slots → Go p e below s n0 k n Q (T'.setTop (mkF m (pc + 3) Ls (v :: rest)))) : Go p e below s n0 k n Q (T.setTop (mkF m pc Ls (.ref a :: rest))) := by
  obtain ⟨e0, hz, locs, N, X⟩ := X
  obtain ⟨T', X', e', st⟩ := Jvm.RoadKit.getF X C.hx C.hZ C.hown (host := "") (Or.inl (C.w w)) Via.refl e0 F (g := mkF m pc Ls (.ref a :: rest)) rfl rfl (hb C.hby hd)
  exact Go.st st (K T' ⟨e', hz, locs, N, X'⟩)
theorem Go.getS (C : Ctx p s m meth c Z a0 ws own nm bytes ml ret) (X : St p l e R s m args below meth c n0 T h cells slots) {O n1 d : String} {i : Nat} {v : Value} (w : Jvm.Cond.fieldLink own i O n1 d ∈ ws) (F : Sta Z h O n1 d v) (hd : decode bytes pc = .ok (.getstatic i, 3)) (K : ∀ T', St p l e R s m args below meth c n0 T' h cells slots → Go p e below s n0 k n Q (T'.setTop (mkF m (pc + 3) Ls (v :: stk)))) : Go p e below s n0 k n Q (T.setTop (mkF m pc Ls stk)) := by
  obtain ⟨e0, hz, locs, N, X⟩ := X
  obtain ⟨T', X', e', st⟩ := Jvm.RoadKit.getS2 X C.hx C.hZ C.hown (host := "") (Or.inl (C.w w)) Via.refl e0 F (g := mkF m pc Ls stk) rfl (hb C.hby hd)
  exact Go.st st (K T' ⟨e', hz, locs, N, X'⟩)
theorem Go.putF (C : Ctx p s m meth c Z a0 ws own nm bytes ml ret) (X : St p l e R s m args below meth c n0 T h cells slots) {O n1 d C1 : String} {i kk : Nat} {ty : FieldType} {a : Addr} {v old : Value} (w : Jvm.Cond.fieldLink own i O n1 d ∈ ws) (F : Fld Z h a O n1 d old) (E : Exa Z h a C1) (L : Jvm.Cond.lays C1 O n1 d ∈ ws ∨ (Jvm.Cond.laysFinal C1 O n1 d ∈ ws ∧ own = O ∧ nm = "<init>")) (wi : Jvm.Cond.instantiable C1 kk ∈ ws)
    (hty : parseFieldDescriptor d = some ty) (hn : narrow ty v = v) (hf : fits ty v = true) (ha : n0 ≤ a) (hd : decode bytes pc = .ok (.putfield i, 3)) (K : ∀ T' h', St p l e R s m args below meth c n0 T' h' cells slots → Wr h h' a (Jvm.RoadKit.slotOf Z O n1 d) v → Fld Z h' a O n1 d v → Go p e below s n0 k n Q (T'.setTop (mkF m (pc + 3) Ls rest))) : Go p e below s n0 k n Q (T.setTop (mkF m pc Ls (v :: .ref a :: rest))) := by
  obtain ⟨e0, hz, locs, N, X⟩ := X
  obtain ⟨T', h', X', e', W, st⟩ := Jvm.RoadKit.putF X C.hx C.hZ C.hown (host := "") (Or.inl (C.w w)) Via.refl e0 F E (L.imp (fun q => C.w q) (fun q => ⟨C.w q.1, q.2.1, C.hnm.trans q.2.2⟩)) (C.w wi) hty hn hf (g := mkF m pc Ls (v :: .ref a :: rest)) rfl rfl (hb C.hby hd)
  exact Go.st st (K T' h' ⟨e', hz, _, Fr.snoc X' N ha, X'⟩ W (F.same W))
theorem Go.newO (C : Ctx p s m meth c Z a0 ws own nm bytes ml ret) (X : St p l e R s m args below meth c n0 T h cells slots) {C1 : String} {i kk : Nat} (w : Jvm.Cond.classLink own i C1 ∈ ws) (wi : Jvm.Cond.instantiable C1 kk ∈ ws) (wz : Jvm.Cond.initialized C1 ∈ ws) (hd : decode bytes pc = .ok (.new i, 3)) (hc : cells + 1 ≤ R.cells) (hl : slots + kk ≤ R.slots)
    (K : ∀ T' h' b, h.size = b → n0 ≤ b → St p l e R s m args below meth c n0 T' h' (cells + 1) (slots + kk) → Ext h h' → Exa Z h' b C1 → (∀ {O n1 d : String} {ty : FieldType}, (Jvm.Cond.lays C1 O n1 d ∈ ws ∨ Jvm.Cond.laysFinal C1 O n1 d ∈ ws) → parseFieldDescriptor d = some ty → Fld Z h' b O n1 d (defaultValue ty)) → Go p e below s n0 k n Q (T'.setTop (mkF m (pc + 3) Ls (.ref b :: stk)))) : Go p e below s n0 k n Q (T.setTop (mkF m pc Ls stk)) := by
  have hs := X.size
  obtain ⟨e0, hz, locs, N, X⟩ := X
  obtain ⟨T', h', X', e', E, E1, D, -, st⟩ := Jvm.RoadKit.newO X C.hx C.hZ C.hown (C.w w) (C.w wi) (C.w wz) e0 (g := mkF m pc Ls stk) rfl (hb C.hby hd) hc hl
  exact Go.st st (K T' h' _ rfl hs ⟨e', hz, _, N, X'⟩ E E1 (fun q r => D (q.imp (fun q => C.w q) (fun q => C.w q)) r))
theorem AR.of {cA : ClassId} {ty : FieldType} {z : Int32} {a : Addr} (F : Arr Z h a (newA cA ty z) ty) (q : ¬ z < 0) : AR Z h a ty (List.replicate z.toNatClampNeg (defaultValue ty)) :=
  ⟨_, F, by simp [newA], by rw [List.length_replicate]; exact (back32 q).2⟩
theorem Go.newP (C : Ctx p s m meth c Z a0 ws own nm bytes ml ret) (X : St p l e R s m args below meth c n0 T h cells slots) {aty : ArrayType} {z : Int32} {cap : Nat} (w : Jvm.Cond.arrayClass (newarray.typeOf aty) ∈ ws) (hd : decode bytes pc = .ok (.newarray aty, 2)) (hn : ¬ z < 0) (hcap : z.toNatClampNeg ≤ cap) (hb8 : cap * 8 ≤ 536870912) (hc : cells + 1 ≤ R.cells) (hl : slots + cap ≤ R.slots)
    (K : ∀ T' h' b, h.size = b → n0 ≤ b → St p l e R s m args below meth c n0 T' h' (cells + 1) (slots + cap) → Ext h h' → AR Z h' b (newarray.typeOf aty) (List.replicate z.toNatClampNeg (defaultValue (newarray.typeOf aty))) → Go p e below s n0 k n Q (T'.setTop (mkF m (pc + 2) Ls (.ref b :: rest)))) : Go p e below s n0 k n Q (T.setTop (mkF m pc Ls (.int z :: rest))) := by
  have hs := X.size
  obtain ⟨e0, hz, locs, N, X⟩ := X
  obtain ⟨T', h', cA, X', e', E, F, st⟩ := Jvm.RoadKit.newP X C.hx C.hZ (C.w w) e0 (g := mkF m pc Ls (.int z :: rest)) rfl (hb C.hby hd) rfl hn hcap hb8 hc hl
  exact Go.st st (K T' h' _ rfl hs ⟨e', hz, _, N, X'⟩ E (AR.of F hn))
theorem AR.lt {a : Addr} {ty : FieldType} {vs : List Value} (F : AR Z h a ty vs) : a < h.size := by obtain ⟨c, A, -⟩ := F; exact A.lt
theorem AR.ext {a : Addr} {ty : FieldType} {vs : List Value} (F : AR Z h a ty vs) (E : Ext h h') : AR Z h' a ty vs := by obtain ⟨c, A, r⟩ := F; exact ⟨c, A.ext E, r⟩
theorem AR.other {a b : Addr} {ty : FieldType} {vs : List Value} {sl : Nat} {v : Value} (F : AR Z h b ty vs) (W : Wr h h' a sl v) (q : b ≠ a) : AR Z h' b ty vs := by obtain ⟨c, A, r⟩ := F; exact ⟨c, A.other W q, r⟩
theorem AR.keep {a : Addr} {ty : FieldType} {vs : List Value} {us : List Addr} (F : AR Z h a ty vs) (K : Keep h h' us) (q : a ∉ us) : AR Z h' a ty vs := by obtain ⟨c, A, r⟩ := F; exact ⟨c, ⟨K.2.1 a c A.1 q, A.2⟩, r⟩
theorem AR.same {a : Addr} {ty : FieldType} {vs : List Value} {i : Nat} {v : Value} (F : AR Z h a ty vs) (W : Wr h h' a i v) : AR Z h' a ty (vs.set i v) := by
  obtain ⟨c, A, r, q⟩ := F
  refine ⟨_, A.same W, ?_, by rw [List.length_set]; exact q⟩
  simp [Cell.setSlot, r]
theorem AR.in {a : Addr} {ty : FieldType} {vs : List Value} {j : Int32} {c : Cell} (r : c.slots = vs.toArray) (hj : ¬ j < 0) (hl : j.toNatClampNeg < vs.length) : ¬ (j < 0 ∨ c.slots.size ≤ j.toNatClampNeg) := by
  rw [r]; simp; exact ⟨Int32.not_lt.mp hj, hl⟩
theorem AR.ne {a b : Addr} {ty : FieldType} {vs : List Value} (F : AR Z h a ty vs) (g : h.size = b) : a ≠ b := by subst g; exact Nat.ne_of_lt F.lt
theorem ltOf {vs : List Value} {i : Nat} {v : Value} (q : vs[i]? = some v) : i < vs.length := (List.getElem?_eq_some_iff.mp q).1
theorem Go.iaload (C : Ctx p s m meth c Z a0 ws own nm bytes ml ret) (X : St p l e R s m args below meth c n0 T h cells slots) {a : Addr} {vs : List Value} {j : Int32} {x : Int32} (F : AR Z h a .int vs) (hj : ¬ j < 0) (hv : vs[j.toNatClampNeg]? = some (.int x)) (hd : decode bytes pc = .ok (.iaload, 1)) (K : Go p e below s n0 k n Q (T.setTop (mkF m (pc + 1) Ls (.int x :: rest)))) : Go p e below s n0 k n Q (T.setTop (mkF m pc Ls (.int j :: .ref a :: rest))) := by
  obtain ⟨e0, hz, locs, N, X⟩ := X
  obtain ⟨cl, A, r, -⟩ := F
  exact Go.st (X.iaload C.hx (j := j) (v := .int x) (by rw [e0]; exact A.1) (State.isArrayOf_alike C.hZ.alike A.2.1) A.2.2 (AR.in (a := a) (ty := .int) r hj (ltOf hv)) (by rw [r]; simpa using hv) (g := mkF m pc Ls (.int j :: .ref a :: rest)) rfl rfl (hb C.hby hd)) K
theorem Go.laload (C : Ctx p s m meth c Z a0 ws own nm bytes ml ret) (X : St p l e R s m args below meth c n0 T h cells slots) {a : Addr} {vs : List Value} {j : Int32} {x : Int64} (F : AR Z h a .long vs) (hj : ¬ j < 0) (hv : vs[j.toNatClampNeg]? = some (.long x)) (hd : decode bytes pc = .ok (.laload, 1)) (K : Go p e below s n0 k n Q (T.setTop (mkF m (pc + 1) Ls (.long x :: rest)))) : Go p e below s n0 k n Q (T.setTop (mkF m pc Ls (.int j :: .ref a :: rest))) := by
  obtain ⟨e0, hz, locs, N, X⟩ := X
  obtain ⟨cl, A, r, -⟩ := F
  exact Go.st (X.laload C.hx (j := j) (v := .long x) (by rw [e0]; exact A.1) (State.isArrayOf_alike C.hZ.alike A.2.1) A.2.2 (AR.in (a := a) (ty := .long) r hj (ltOf hv)) (by rw [r]; simpa using hv) (g := mkF m pc Ls (.int j :: .ref a :: rest)) rfl rfl (hb C.hby hd)) K
theorem Go.baload (C : Ctx p s m meth c Z a0 ws own nm bytes ml ret) (X : St p l e R s m args below meth c n0 T h cells slots) {a : Addr} {vs : List Value} {j : Int32} {x : Int32} (F : AR Z h a .byte vs) (hj : ¬ j < 0) (hv : vs[j.toNatClampNeg]? = some (.int x)) (hd : decode bytes pc = .ok (.baload, 1)) (K : Go p e below s n0 k n Q (T.setTop (mkF m (pc + 1) Ls (.int x :: rest)))) : Go p e below s n0 k n Q (T.setTop (mkF m pc Ls (.int j :: .ref a :: rest))) := by
  obtain ⟨e0, hz, locs, N, X⟩ := X
  obtain ⟨cl, A, r, -⟩ := F
  exact Go.st (X.baloadBytes C.hx (j := j) (v := .int x) (by rw [e0]; exact A.1) (State.isArrayOf_alike C.hZ.alike A.2.1) A.2.2 (AR.in (a := a) (ty := .byte) r hj (ltOf hv)) (by rw [r]; simpa using hv) (g := mkF m pc Ls (.int j :: .ref a :: rest)) rfl rfl (hb C.hby hd)) K
theorem Go.aaload (C : Ctx p s m meth c Z a0 ws own nm bytes ml ret) (X : St p l e R s m args below meth c n0 T h cells slots) {a : Addr} {ty : FieldType} {vs : List Value} {j : Int32} {v : Value} (F : AR Z h a ty vs) (hty : ty.isReference = true) (hj : ¬ j < 0) (hv : vs[j.toNatClampNeg]? = some v) (hd : decode bytes pc = .ok (.aaload, 1)) (K : Go p e below s n0 k n Q (T.setTop (mkF m (pc + 1) Ls (v :: rest)))) : Go p e below s n0 k n Q (T.setTop (mkF m pc Ls (.int j :: .ref a :: rest))) := by
  obtain ⟨e0, hz, locs, N, X⟩ := X
  obtain ⟨cl, A, r, -⟩ := F
  exact Go.st (X.aaload C.hx (j := j) (v := v) (by rw [e0]; exact A.1) (State.isArrayOf_alike C.hZ.alike A.2.1) hty A.2.2 (AR.in (a := a) (ty := ty) r hj (ltOf hv)) (by rw [r]; simpa using hv) (g := mkF m pc Ls (.int j :: .ref a :: rest)) rfl rfl (hb C.hby hd)) K
theorem Go.alen (C : Ctx p s m meth c Z a0 ws own nm bytes ml ret) (X : St p l e R s m args below meth c n0 T h cells slots) {a : Addr} {ty : FieldType} {vs : List Value} {z : Int32} (F : AR Z h a ty vs) (hz : vs.length.toInt32 = z) (hd : decode bytes pc = .ok (.arraylength, 1)) (K : Go p e below s n0 k n Q (T.setTop (mkF m (pc + 1) Ls (.int z :: rest)))) : Go p e below s n0 k n Q (T.setTop (mkF m pc Ls (.ref a :: rest))) := by
  subst hz
  obtain ⟨e0, hz, locs, N, X⟩ := X
  obtain ⟨cl, A, r, -⟩ := F
  refine Go.st (X.arraylength C.hx (by rw [e0]; exact A.1) (State.isArrayOf_alike C.hZ.alike A.2.1) (g := mkF m pc Ls (.ref a :: rest)) rfl rfl (hb C.hby hd)) ?_
  rw [r]
  simpa using K
theorem Go.iastore (C : Ctx p s m meth c Z a0 ws own nm bytes ml ret) (X : St p l e R s m args below meth c n0 T h cells slots) {a : Addr} {vs : List Value} {j : Int32} {x : Int32} (F : AR Z h a .int vs) (hj : ¬ j < 0) (hl : j.toNatClampNeg < vs.length) (ha : n0 ≤ a) (hd : decode bytes pc = .ok (.iastore, 1)) (K : ∀ T' h', St p l e R s m args below meth c n0 T' h' cells slots → Wr h h' a j.toNatClampNeg (.int x) → AR Z h' a .int (vs.set j.toNatClampNeg (.int x)) → Go p e below s n0 k n Q (T'.setTop (mkF m (pc + 1) Ls rest))) : Go p e below s n0 k n Q (T.setTop (mkF m pc Ls (.int x :: .int j :: .ref a :: rest))) := by
  obtain ⟨e0, hz, locs, N, X⟩ := X
  have F0 := F
  obtain ⟨cl, A, r, -⟩ := F
  obtain ⟨T', h', X', e', W, st⟩ := Jvm.RoadKit.stI X C.hx C.hZ e0 A (j := j) (x := x) (AR.in (a := a) (ty := .int) r hj hl) (g := mkF m pc Ls (.int x :: .int j :: .ref a :: rest)) rfl rfl (hb C.hby hd)
  exact Go.st st (K T' h' ⟨e', hz, _, Fr.snoc X' N ha, X'⟩ W (F0.same W))
theorem Go.lastore (C : Ctx p s m meth c Z a0 ws own nm bytes ml ret) (X : St p l e R s m args below meth c n0 T h cells slots) {a : Addr} {vs : List Value} {j : Int32} {x : Int64} (F : AR Z h a .long vs) (hj : ¬ j < 0) (hl : j.toNatClampNeg < vs.length) (ha : n0 ≤ a) (hd : decode bytes pc = .ok (.lastore, 1)) (K : ∀ T' h', St p l e R s m args below meth c n0 T' h' cells slots → Wr h h' a j.toNatClampNeg (.long x) → AR Z h' a .long (vs.set j.toNatClampNeg (.long x)) → Go p e below s n0 k n Q (T'.setTop (mkF m (pc + 1) Ls rest))) : Go p e below s n0 k n Q (T.setTop (mkF m pc Ls (.long x :: .int j :: .ref a :: rest))) := by
  obtain ⟨e0, hz, locs, N, X⟩ := X
  have F0 := F
  obtain ⟨cl, A, r, -⟩ := F
  obtain ⟨T', h', X', e', W, st⟩ := Jvm.RoadKit.stJ X C.hx C.hZ e0 A (j := j) (x := x) (AR.in (a := a) (ty := .long) r hj hl) (g := mkF m pc Ls (.long x :: .int j :: .ref a :: rest)) rfl rfl (hb C.hby hd)
  exact Go.st st (K T' h' ⟨e', hz, _, Fr.snoc X' N ha, X'⟩ W (F0.same W))
theorem Go.bastore (C : Ctx p s m meth c Z a0 ws own nm bytes ml ret) (X : St p l e R s m args below meth c n0 T h cells slots) {a : Addr} {vs : List Value} {j : Int32} {x : Int32} (F : AR Z h a .byte vs) (hj : ¬ j < 0) (hl : j.toNatClampNeg < vs.length) (ha : n0 ≤ a) (hd : decode bytes pc = .ok (.bastore, 1)) (K : ∀ T' h', St p l e R s m args below meth c n0 T' h' cells slots → Wr h h' a j.toNatClampNeg (.int (nar .byte x)) → AR Z h' a .byte (vs.set j.toNatClampNeg (.int (nar .byte x))) → Go p e below s n0 k n Q (T'.setTop (mkF m (pc + 1) Ls rest))) : Go p e below s n0 k n Q (T.setTop (mkF m pc Ls (.int x :: .int j :: .ref a :: rest))) := by
  obtain ⟨e0, hz, locs, N, X⟩ := X
  have F0 := F
  obtain ⟨cl, A, r, -⟩ := F
  obtain ⟨T', h', X', e', W, st⟩ := Jvm.RoadKit.stB X C.hx C.hZ e0 A (j := j) (x := x) (AR.in (a := a) (ty := .byte) r hj hl) (g := mkF m pc Ls (.int x :: .int j :: .ref a :: rest)) rfl rfl (hb C.hby hd)
  exact Go.st st (K T' h' ⟨e', hz, _, Fr.snoc X' N ha, X'⟩ W (F0.same W))
theorem Con.back {y : MethodName} {rm : Room} {as : Array Value} {W : Nat} (H : Con l Z y bytes ml ret [] rm n0 as h Q) (hZ : Z.Warmed39 s.vm) (wc : (Jvm.Cond.code y bytes ml ret).before a0 Z = true) (wz : (Jvm.Cond.initialized y.cls).before a0 Z = true) (hf : rm.frames + 1 ≤ R.frames) (hl : W + (ml + 11) + rm.locals ≤ R.locals) :
    Back l R p e below s args y 3 W (fun A a => a = as ∧ A.U.heap = h ∧ A.cells + rm.cells ≤ R.cells ∧ A.slots + rm.slots ≤ R.slots)
      (fun A _ v B => ∃ L, (Q v B.U.heap ∧ Fr n0 L) ∧ B.locs = A.locs ++ L ∧ B.cells = A.cells + rm.cells ∧ B.slots = A.slots + rm.slots) :=
  backOf (Q := fun v h L => Q v h ∧ Fr n0 L) H hZ wc wz hf hl
theorem Go.callS (C : Ctx p s m meth c Z a0 ws own nm bytes ml ret) (X : St p l e R s m args below meth c n0 T h cells slots) {y : MethodName} {bytes' : ByteArray} {ml' : Nat} {ret' : Option FieldType} {rm : Room} {i W : Nat} {argsL : List Value} {Q' : Option Value → Heap → Prop} (w1 : Jvm.Cond.methodLink own i y ∈ ws) (w2 : Jvm.Cond.static y ∈ ws) (w3 : Jvm.Cond.initialized y.cls ∈ ws) (w4 : Jvm.Cond.code y bytes' ml' ret' ∈ ws) (hy : y.cls ≠ "java/lang/invoke/MethodHandle" ∧ y.cls ≠ "java/lang/invoke/VarHandle")
    (H : Con l Z y bytes' ml' ret' [] rm n0 argsL.toArray h Q') (hfr : rm.frames + 1 ≤ R.frames) (hlo : W + (ml' + 11) + rm.locals ≤ R.locals) (hsz : Ls.size = ml) (hlen : ∀ sig, parseMethodDescriptor y.desc = some sig → argsL.length = sig.parameters.length) (hW : (rest.map fun v => v.category).sum ≤ W) (hstk : stk = argsL.reverse ++ rest) (hd : decode bytes pc = .ok (.invokestatic i, 3)) (hce : cells + rm.cells ≤ R.cells) (hsl : slots + rm.slots ≤ R.slots) (K : ∀ T' h' v, St p l e R s m args below meth c n0 T' h' (cells + rm.cells) (slots + rm.slots) → Q' v h' → Go p e below s n0 k n Q (T'.setTop (mkF m (pc + 3) Ls (v.toList ++ rest)))) : Go p e below s n0 k n Q (T.setTop (mkF m pc Ls stk)) := by
  obtain ⟨e0, hz, locs, N, X⟩ := X
  obtain ⟨v, _, ⟨T', L', k', n'⟩, -, X', ⟨L, hQ, l1, y1, z1⟩, st⟩ := Jvm.LawKit.callS X C.hx (y := y) C.hown (mvT C.hZ (C.w w1)) (mvT C.hZ (C.w w2)) (mvT C.hZ (C.w w3)) (mvT C.hZ (C.w w4)) hy (H.back (W := W) C.hZ (C.w w4) (C.w w3) hfr hlo) (g := mkF m pc Ls stk) rfl (hsz.trans C.hml.symm) (argsL := argsL) (rest := rest) hlen hstk (by show 2 * 0 + _ ≤ _; omega) (hb C.hby hd) (fun _ _ => ⟨rfl, e0, hce, hsl⟩)
  dsimp only [Pt.U, Pt.locs, Pt.cells, Pt.slots] at X' l1 y1 z1 st hQ
  subst l1 y1 z1
  exact Go.st st (K T' _ v ⟨rfl, hz, _, N.app hQ.2, X'⟩ hQ.1)
theorem Go.callInit (C : Ctx p s m meth c Z a0 ws own nm bytes ml ret) (X : St p l e R s m args below meth c n0 T h cells slots) {y : MethodName} {bytes' : ByteArray} {ml' : Nat} {rm : Room} {i W : Nat} {argsL : List Value} {Q' : Option Value → Heap → Prop} {a : Addr} (hy1 : y.name = "<init>") (w1 : Jvm.Cond.methodLink own i y ∈ ws) (w2 : Jvm.Cond.instanceMethod y ∈ ws) (w3 : Jvm.Cond.initialized y.cls ∈ ws) (w4 : Jvm.Cond.code y bytes' ml' none ∈ ws) (hy : y.cls ≠ "java/lang/invoke/MethodHandle" ∧ y.cls ≠ "java/lang/invoke/VarHandle")
    (H : Con l Z y bytes' ml' none [] rm n0 (.ref a :: argsL).toArray h Q') (hfr : rm.frames + 1 ≤ R.frames) (hlo : W + (ml' + 11) + rm.locals ≤ R.locals) (hsz : Ls.size = ml) (hlen : ∀ sig, parseMethodDescriptor y.desc = some sig → argsL.length = sig.parameters.length) (hW : (rest.map fun v => v.category).sum ≤ W) (hstk : stk = argsL.reverse ++ .ref a :: rest) (hd : decode bytes pc = .ok (.invokespecial i, 3)) (hce : cells + rm.cells ≤ R.cells) (hsl : slots + rm.slots ≤ R.slots) (K : ∀ T' h' v, St p l e R s m args below meth c n0 T' h' (cells + rm.cells) (slots + rm.slots) → Q' v h' → Go p e below s n0 k n Q (T'.setTop (mkF m (pc + 3) Ls (v.toList ++ rest)))) : Go p e below s n0 k n Q (T.setTop (mkF m pc Ls stk)) := by
  obtain ⟨e0, hz, locs, N, X⟩ := X
  obtain ⟨v, _, ⟨T', L', k', n'⟩, -, X', ⟨L, hQ, l1, y1, z1⟩, st⟩ := X.specialBack C.hx (y := y) hy1 C.hown (mvT C.hZ (C.w w1)) (mvT C.hZ (C.w w2)) (mvT C.hZ (C.w w4)) hy (H.back (W := W) C.hZ (C.w w4) (C.w w3) hfr hlo) (g := mkF m pc Ls stk) rfl (hsz.trans C.hml.symm) (Steps.refl _) (a := a) (argsL := argsL) (rest := rest) hlen hstk (by show 2 * 0 + _ ≤ _; omega) (hb C.hby hd) (fun _ _ => ⟨rfl, e0, hce, hsl⟩)
  dsimp only [Pt.U, Pt.locs, Pt.cells, Pt.slots] at X' l1 y1 z1 st hQ
  subst l1 y1 z1
  exact Go.tr st (K T' _ v ⟨rfl, hz, _, N.app hQ.2, X'⟩ hQ.1)
theorem Go.callV (C : Ctx p s m meth c Z a0 ws own nm bytes ml ret) (X : St p l e R s m args below meth c n0 T h cells slots) {y : MethodName} {bytes' : ByteArray} {ml' : Nat} {ret' : Option FieldType} {rm : Room} {i W : Nat} {argsL : List Value} {Q' : Option Value → Heap → Prop} {a : Addr} {C1 : String} (E : Exa Z h a C1) (w1 : Jvm.Cond.methodLink own i y ∈ ws) (w2 : Jvm.Cond.declares y ∈ ws) (w5 : Jvm.Cond.selects C1 y y ∈ ws) (w6 : Jvm.Cond.instanceMethod y ∈ ws) (w3 : Jvm.Cond.initialized y.cls ∈ ws) (w4 : Jvm.Cond.code y bytes' ml' ret' ∈ ws) (hy : y.cls ≠ "java/lang/invoke/MethodHandle" ∧ y.cls ≠ "java/lang/invoke/VarHandle") (hC1 : C1 = y.cls)
    (H : Con l Z y bytes' ml' ret' [] rm n0 (.ref a :: argsL).toArray h Q') (hfr : rm.frames + 1 ≤ R.frames) (hlo : W + (ml' + 11) + rm.locals ≤ R.locals) (hsz : Ls.size = ml) (hlen : ∀ sig, parseMethodDescriptor y.desc = some sig → argsL.length = sig.parameters.length) (hW : (rest.map fun v => v.category).sum ≤ W) (hstk : stk = argsL.reverse ++ .ref a :: rest) (hd : decode bytes pc = .ok (.invokevirtual i, 3)) (hce : cells + rm.cells ≤ R.cells) (hsl : slots + rm.slots ≤ R.slots) (K : ∀ T' h' v, St p l e R s m args below meth c n0 T' h' (cells + rm.cells) (slots + rm.slots) → Q' v h' → Go p e below s n0 k n Q (T'.setTop (mkF m (pc + 3) Ls (v.toList ++ rest)))) : Go p e below s n0 k n Q (T.setTop (mkF m pc Ls stk)) := by
  subst hC1
  obtain ⟨e0, hz, locs, N, X⟩ := X
  obtain ⟨cq, kq, qa, qb, qc⟩ := isOf (T := T) C.hZ e0 E
  obtain ⟨v, _, ⟨T', L', k', n'⟩, -, X', ⟨L, hQ, l1, y1, z1⟩, st⟩ := X.virtualBack C.hx (y := y) (z := y) C.hown (mvT C.hZ (C.w w1)) (mvT C.hZ (C.w w2)) (notFace_of_selects (args := #[]) (mvT C.hZ (C.w w5))) (mvT C.hZ (C.w w5)) (mvT C.hZ (C.w w6)) hy (H.back (W := W) C.hZ (C.w w4) (C.w w3) hfr hlo) qa qc (g := mkF m pc Ls stk) rfl (hsz.trans C.hml.symm) (Steps.refl _) (argsL := argsL) (rest := rest) hlen hstk (by show 2 * 0 + _ ≤ _; omega) (hb C.hby hd) (fun _ _ => ⟨rfl, e0, hce, hsl⟩)
  dsimp only [Pt.U, Pt.locs, Pt.cells, Pt.slots] at X' l1 y1 z1 st hQ
  subst l1 y1 z1
  exact Go.tr st (K T' _ v ⟨rfl, hz, _, N.app hQ.2, X'⟩ hQ.1)
theorem Go.initO (C : Ctx p s m meth c Z a0 ws own nm bytes ml ret) (X : St p l e R s m args below meth c n0 T h cells slots) {i W : Nat} {a : Addr} (w1 : Jvm.Cond.methodLink own i Lib.objectInit ∈ ws) (w2 : Jvm.Cond.instanceMethod Lib.objectInit ∈ ws) (w3 : Jvm.Cond.code Lib.objectInit ⟨#[0xb1]⟩ 1 none ∈ ws) (hsz : Ls.size = ml) (hd : decode bytes pc = .ok (.invokespecial i, 3)) (hf : 1 ≤ R.frames) (hW : (rest.map fun v => v.category).sum ≤ W) (hl : W + 12 ≤ R.locals) (K : ∀ T', St p l e R s m args below meth c n0 T' h cells slots → Go p e below s n0 k n Q (T'.setTop (mkF m (pc + 3) Ls rest))) : Go p e below s n0 k n Q (T.setTop (mkF m pc Ls (.ref a :: rest))) := by
  obtain ⟨e0, hz, locs, N, X⟩ := X
  obtain ⟨T', X', e', st⟩ := Jvm.RoadKit.initO X C.hx C.hZ C.hown (C.w w1) (C.w w2) (C.w w3) e0 (g := mkF m pc Ls (.ref a :: rest)) rfl (hsz.trans C.hml.symm) rfl (hb C.hby hd) hf (W := W) (by show 2 * 0 + _ ≤ _; omega) hl
  exact Go.st st (K T' ⟨e', hz, locs, N, X'⟩)
theorem Go.ldcI (C : Ctx p s m meth c Z a0 ws own nm bytes ml ret) (X : St p l e R s m args below meth c n0 T h cells slots) {i : Nat} {x : Int32} (w : Jvm.Cond.constant own i x ∈ ws) (hd : decode bytes pc = .ok (.ldc i, 2)) (K : Go p e below s n0 k n Q (T.setTop (mkF m (pc + 2) Ls (.int x :: stk)))) : Go p e below s n0 k n Q (T.setTop (mkF m pc Ls stk)) := by
  obtain ⟨e0, hz, locs, N, X⟩ := X
  exact Go.st (fun _ => X.ldcI (g := mkF m pc Ls stk) C.hx C.hown (mvT C.hZ (C.w w)) rfl (hb C.hby hd)) K
theorem Go.ldcW (C : Ctx p s m meth c Z a0 ws own nm bytes ml ret) (X : St p l e R s m args below meth c n0 T h cells slots) {i : Nat} {x : Int32} (w : Jvm.Cond.constant own i x ∈ ws) (hd : decode bytes pc = .ok (.ldc_w i, 3)) (K : Go p e below s n0 k n Q (T.setTop (mkF m (pc + 3) Ls (.int x :: stk)))) : Go p e below s n0 k n Q (T.setTop (mkF m pc Ls stk)) := by
  obtain ⟨e0, hz, locs, N, X⟩ := X
  exact Go.st (fun _ => X.ldcWI (g := mkF m pc Ls stk) C.hx C.hown (mvT C.hZ (C.w w)) rfl (hb C.hby hd)) K
theorem Go.ldcJ (C : Ctx p s m meth c Z a0 ws own nm bytes ml ret) (X : St p l e R s m args below meth c n0 T h cells slots) {i : Nat} {x : Int64} (w : Jvm.Cond.constantLong own i x ∈ ws) (hd : decode bytes pc = .ok (.ldc2_w i, 3)) (K : Go p e below s n0 k n Q (T.setTop (mkF m (pc + 3) Ls (.long x :: stk)))) : Go p e below s n0 k n Q (T.setTop (mkF m pc Ls stk)) := by
  obtain ⟨e0, hz, locs, N, X⟩ := X
  exact Go.st (fun _ => X.ldc2J (g := mkF m pc Ls stk) C.hx C.hown (mvT C.hZ (C.w w)) rfl (hb C.hby hd)) K
theorem Go.irem (C : Ctx p s m meth c Z a0 ws own nm bytes ml ret) (X : St p l e R s m args below meth c n0 T h cells slots) {x y : Int32} (hy : y ≠ 0) (hd : decode bytes pc = .ok (.irem, 1)) (K : Go p e below s n0 k n Q (T.setTop (mkF m (pc + 1) Ls (.int (x % y) :: rest)))) : Go p e below s n0 k n Q (T.setTop (mkF m pc Ls (.int y :: .int x :: rest))) := by
  obtain ⟨e0, hz, locs, N, X⟩ := X
  exact Go.st (fun _ => Jvm.RoadKit.iremM (g := mkF m pc Ls (.int y :: .int x :: rest)) X C.hx rfl (hb C.hby hd) rfl hy) K
theorem Go.lrem (C : Ctx p s m meth c Z a0 ws own nm bytes ml ret) (X : St p l e R s m args below meth c n0 T h cells slots) {x y : Int64} (hy : y ≠ 0) (hd : decode bytes pc = .ok (.lrem, 1)) (K : Go p e below s n0 k n Q (T.setTop (mkF m (pc + 1) Ls (.long (x % y) :: rest)))) : Go p e below s n0 k n Q (T.setTop (mkF m pc Ls (.long y :: .long x :: rest))) := by
  refine Go.st (fun _ => XS.lrem (g := mkF m pc Ls (.long y :: .long x :: rest)) X.here C.hx rfl (hb C.hby hd) rfl hy) ?_
  rw [lrem_mod]
  exact K
theorem Go.dupX2 (C : Ctx p s m meth c Z a0 ws own nm bytes ml ret) (X : St p l e R s m args below meth c n0 T h cells slots) {x y z : Value} (h1 : x.category = 1) (h2 : y.category = 1) (h3 : z.category = 1) (hd : decode bytes pc = .ok (.dup_x2, 1)) (K : Go p e below s n0 k n Q (T.setTop (mkF m (pc + 1) Ls (x :: y :: z :: x :: rest)))) : Go p e below s n0 k n Q (T.setTop (mkF m pc Ls (x :: y :: z :: rest))) := by
  refine Go.st (fun t hr => ?_) K
  have hx := C.hx
  have hd' := hb C.hby hd
  jvm_step X.here [X.here.top, hx, hd', h1, h2, h3]
  exact hr
theorem eqI_v {args : Array Value} {first s : State} {o : Option Outcome} {idx : List Nat} {t : Term} {z : Int32} (q : (Jvm.Cond.eq t (Term.int z)).value args first o s idx = some true) : t.eval args first o idx s = some (.int z) := by
  obtain ⟨x, y, ha, hb, k1, k2⟩ := cmp_v (Or.inl q)
  have hy : y = .int z := by
    have r := Term.int_eval (args := args) (first := first) (o := o) (idx := idx) (s := s) z
    rw [r] at hb; exact (Option.some.inj hb).symm
  subst hy
  obtain ⟨u, rfl⟩ := k2
  rw [ha, gotT (Cond.eq_ints ha hb) q]
theorem fieldNe {args : Array Value} {first s : State} {o : Option Outcome} {idx : List Nat} {t t' : Term} {C f d : String} {a b : Addr} {z z' : Int32} (h1 : t.eval args first o idx s = some (.ref a)) (h2 : t'.eval args first o idx s = some (.ref b)) (q1 : (Jvm.Cond.eq (Term.field t C f d) (Term.int z)).value args first o s idx = some true) (q2 : (Jvm.Cond.eq (Term.field t' C f d) (Term.int z')).value args first o s idx = some true) (hz : z ≠ z') : a ≠ b := by
  intro r; subst r
  have e1 := eqI_v q1; have e2 := eqI_v q2
  rw [fld_at h1] at e1; rw [fld_at h2] at e2
  rw [e1] at e2
  cases e2; exact hz rfl
/-- an array whose elements are known and that may be cloned -/
def AF (Z : State) (h : Heap) (a : Addr) (ty : FieldType) (vs : List Value) : Prop := ∃ c : Cell, Arr Z h a c ty ∧ c.slots = vs.toArray ∧ vs.length < 2 ^ 31 ∧ FitC Z c
theorem AF.ar {a : Addr} {ty : FieldType} {vs : List Value} (F : AF Z h a ty vs) : AR Z h a ty vs := by obtain ⟨c, A, r, q, -⟩ := F; exact ⟨c, A, r, q⟩
theorem Go.clone (C : Ctx p s m meth c Z a0 ws own nm bytes ml ret) (X : St p l e R s m args below meth c n0 T h cells slots) {ad : String} {i W cap : Nat} {a : Addr} {ty : FieldType} {vs : List Value} (w1 : Jvm.Cond.methodLink own i ⟨ad, "clone", "()Ljava/lang/Object;"⟩ ∈ ws) (w2 : Jvm.Cond.sameMethod ad "java/lang/Object" "clone" "()Ljava/lang/Object;" ∈ ws) (w3 : Jvm.Cond.native ⟨"java/lang/Object", "clone", "()Ljava/lang/Object;"⟩ ∈ ws) (w4 : Jvm.Cond.instanceMethod ⟨"java/lang/Object", "clone", "()Ljava/lang/Object;"⟩ ∈ ws)
    (w5 : Jvm.Cond.selects ad ⟨ad, "clone", "()Ljava/lang/Object;"⟩ ⟨"java/lang/Object", "clone", "()Ljava/lang/Object;"⟩ ∈ ws) (w6 : Jvm.Cond.castable ad "java/lang/Cloneable" ∈ ws) (F : AF Z h a ty vs) (E : Exa Z h a ad) (hsz : Ls.size = ml) (hd : decode bytes pc = .ok (.invokevirtual i, 3)) (hf : 1 ≤ R.frames) (hW : (rest.map fun v => v.category).sum ≤ W) (hl : W + 14 ≤ R.locals) (hcap : vs.length ≤ cap) (hc : cells + 1 ≤ R.cells) (hsl : slots + cap ≤ R.slots)
    (K : ∀ T' h' b, h.size = b → n0 ≤ b → St p l e R s m args below meth c n0 T' h' (cells + 1) (slots + cap) → Ext h h' → AR Z h' b ty vs → Exa Z h' b ad → Go p e below s n0 k n Q (T'.setTop (mkF m (pc + 3) Ls (.ref b :: rest)))) : Go p e below s n0 k n Q (T.setTop (mkF m pc Ls (.ref a :: rest))) := by
  have hs := X.size
  obtain ⟨e0, hz, locs, N, X⟩ := X
  obtain ⟨cl, A, r, q, FC⟩ := F
  obtain ⟨T', h', X', e', Ex, A', E', st⟩ := Jvm.RoadKit.cloneA X C.hx C.hZ C.hown (C.w w1) (C.w w2) (C.w w3) (C.w w4) (C.w w5) (C.w w6) e0 A E FC (g := mkF m pc Ls (.ref a :: rest)) rfl (hsz.trans C.hml.symm) rfl (hb C.hby hd) hf (W := W) (cap := cap) (by show 2 * 0 + _ ≤ _; omega) hl (by rw [r]; simpa using hcap) hc hsl
  exact Go.st st (K T' h' _ rfl hs ⟨e', hz, _, N, X'⟩ Ex ⟨_, A', r, q⟩ E')
theorem Go.cast (C : Ctx p s m meth c Z a0 ws own nm bytes ml ret) (X : St p l e R s m args below meth c n0 T h cells slots) {i : Nat} {K1 : String} {a : Addr} (w : Jvm.Cond.classLink own i K1 ∈ ws) (F : Ins Z h a K1 true) (hd : decode bytes pc = .ok (.checkcast i, 3)) (K : ∀ T', St p l e R s m args below meth c n0 T' h cells slots → Go p e below s n0 k n Q (T'.setTop (mkF m (pc + 3) Ls (.ref a :: rest)))) : Go p e below s n0 k n Q (T.setTop (mkF m pc Ls (.ref a :: rest))) := by
  obtain ⟨e0, hz, locs, N, X⟩ := X
  obtain ⟨T', X', e', st⟩ := Jvm.RoadKit.castY X C.hx C.hZ C.hown (C.w w) e0 F (g := mkF m pc Ls (.ref a :: rest)) rfl rfl (hb C.hby hd)
  exact Go.st st (K T' ⟨e', hz, locs, N, X'⟩)
theorem elemRef {args : Array Value} {s : State} {t t' : Term} {a x : Addr} {cl : Cell} {j : Int32} (q : (Jvm.Cond.eq (Term.elem t (Term.int j)) t').value args s none s [] = some true) (ht : t.eval args s none [] s = some (.ref a)) (ht' : t'.eval args s none [] s = some (.ref x)) (hc : s.heap[a]? = some cl) : cl.slots[j.toNatClampNeg]? = some (.ref x) := by
  obtain ⟨u, v, ha, hb, k1, k2⟩ := cmp_v (Or.inl q)
  rw [ht'] at hb
  cases hb
  have e := gotT (eq_R ha ht' k2.2 rfl) q
  subst e
  exact (elem_in ha ht (Term.int_eval j) hc).2
theorem fldI {args : Array Value} {s : State} {t : Term} {a : Addr} {C f d : String} {z : Int32} (q : (Jvm.Cond.eq (Term.field t C f d) (Term.int z)).value args s none s [] = some true) (ht : t.eval args s none [] s = some (.ref a)) : Fld s s.heap a C f d (.int z) := by
  have e := eqI_v q
  rw [fld_at ht] at e
  exact Fld.start e
theorem lenOf' {args : Array Value} {s : State} {t : Term} {a : Addr} {cl : Cell} {ty : FieldType} {z : Int32} (q : (Jvm.Cond.eq (Term.length t) (Term.int z)).value args s none s [] = some true) (ht : t.eval args s none [] s = some (.ref a)) (A : Arr s s.heap a cl ty) : cl.slots.size.toInt32 = z ∧ cl.slots.size < 2 ^ 31 := by
  obtain ⟨b, cell, h1, h2, h3, h4⟩ := Jvm.Lib.length_spec (eqI_v q)
  rw [ht] at h1
  cases h1
  rw [A.fin (Vm.Alike.refl _)] at h2
  cases h2
  exact ⟨(Value.int.inj h4).symm, h3⟩
theorem Go.newPE (C : Ctx p s m meth c Z a0 ws own nm bytes ml ret) (X : St p l e R s m args below meth c n0 T h cells slots) {aty : ArrayType} {z : Int32} {cap : Nat} {ad : String} (w : Jvm.Cond.arrayClass (newarray.typeOf aty) ∈ ws) (had : "[" ++ (newarray.typeOf aty).toString = ad) (hd : decode bytes pc = .ok (.newarray aty, 2)) (hn : ¬ z < 0) (hcap : z.toNatClampNeg ≤ cap) (hb8 : cap * 8 ≤ 536870912) (hc : cells + 1 ≤ R.cells) (hl : slots + cap ≤ R.slots)
    (K : ∀ T' h' b, h.size = b → n0 ≤ b → St p l e R s m args below meth c n0 T' h' (cells + 1) (slots + cap) → Ext h h' → AR Z h' b (newarray.typeOf aty) (List.replicate z.toNatClampNeg (defaultValue (newarray.typeOf aty))) → Exa Z h' b ad → Go p e below s n0 k n Q (T'.setTop (mkF m (pc + 2) Ls (.ref b :: rest)))) : Go p e below s n0 k n Q (T.setTop (mkF m pc Ls (.int z :: rest))) := by
  have hs := X.size
  obtain ⟨e0, hz, locs, N, X⟩ := X
  obtain ⟨T', h', cA, X', e', E, F, EX, st⟩ := Jvm.RoadKit.newPE X C.hx C.hZ (C.w w) e0 (g := mkF m pc Ls (.int z :: rest)) rfl (hb C.hby hd) rfl hn hcap hb8 hc hl had
  exact Go.st st (K T' h' _ rfl hs ⟨e', hz, _, N, X'⟩ E (AR.of F hn) EX)
theorem AF.zero {a : Addr} {N : Nat} (F : AR Z h a .byte (List.replicate N (.int (0 : Int32)))) : AF Z h a .byte (List.replicate N (.int (0 : Int32))) := by
  obtain ⟨c, A, r, q⟩ := F
  refine ⟨c, A, r, q, fitC_of A fun i hi v hv => ?_⟩
  rw [r, List.getElem?_toArray, List.getElem?_replicate] at hv
  split at hv
  · cases hv; rfl
  · cases hv
theorem AR.arv0 {a : Addr} {N : Nat} (F : AR Z h a .byte (List.replicate N (.int (0 : Int32)))) : ∃ k, Arv Z h a k .byte N.toInt32 (List.replicate N (.int (0 : Int32))) (.int (0 : Int32)) := by
  obtain ⟨c, A, r, q⟩ := F
  rw [List.length_replicate] at q
  have sz : c.slots.size = N := by rw [r]; simp
  have cN : N.toInt32.toNatClampNeg = N := by simp only [Int32.toNatClampNeg, len_toInt q]; rfl
  have g0 : ∀ i, (List.replicate N (Value.int (0 : Int32))).getD i (.int (0 : Int32)) = .int (0 : Int32) := fun i => by
    rw [List.getD_eq_getElem?_getD, List.getElem?_replicate]; split <;> rfl
  refine ⟨c.cls, c, A, rfl, by rw [sz, cN], ?_, fun i hi => ?_, fun i _ => by rw [g0]; rfl⟩
  · rw [Int32.lt_iff_toInt_lt, len_toInt q]
    have h0 : (0 : Int32).toInt = 0 := rfl
    omega
  · rw [g0, r]
    rw [sz] at hi
    simp [List.getElem?_replicate, hi]
theorem Arv.ar0 {a : Addr} {k : ClassId} {N : Nat} {vs : List Value} (hN : N < 2 ^ 31) (F : Arv Z h a k .byte N.toInt32 vs (.int (0 : Int32))) (hv : ∀ i, vs.getD i (.int (0 : Int32)) = .int (0 : Int32)) : AR Z h a .byte (List.replicate N (.int (0 : Int32))) := by
  obtain ⟨c, A, -, S, -, H, -⟩ := F
  have cN : N.toInt32.toNatClampNeg = N := by simp only [Int32.toNatClampNeg, len_toInt hN]; rfl
  rw [cN] at S
  refine ⟨c, A, ?_, by rw [List.length_replicate]; exact hN⟩
  apply Array.ext_getElem?
  intro i
  by_cases q : i < N
  · rw [H i (by omega), hv]; simp [List.getElem?_replicate, q]
  · rw [Array.getElem?_eq_none (by omega), Array.getElem?_eq_none (by simp; omega)]
theorem Go.acopy0 (C : Ctx p s m meth c Z a0 ws own nm bytes ml ret) (X : St p l e R s m args below meth c n0 T h cells slots) {i W : Nat} {a b : Addr} {n1 n2 : Nat} {nn : Int32} (w1 : Jvm.Cond.methodLink own i Jvm.Stand.acN ∈ ws) (w2 : Jvm.Cond.native Jvm.Stand.acN ∈ ws) (w3 : Jvm.Cond.static Jvm.Stand.acN ∈ ws) (w4 : Jvm.Cond.initialized "java/lang/System" ∈ ws) (F1 : AR Z h a .byte (List.replicate n1 (.int (0 : Int32)))) (F2 : AR Z h b .byte (List.replicate n2 (.int (0 : Int32)))) (hnn : ¬ nn < 0) (h1 : nn.toNatClampNeg ≤ n1) (h2 : nn.toNatClampNeg ≤ n2) (gb : n0 ≤ b) (hsz : Ls.size = ml)
    (hd : decode bytes pc = .ok (.invokestatic i, 3)) (hf : 1 ≤ R.frames) (hW : (rest.map fun v => v.category).sum ≤ W) (hlo : W + (nativeFrameWords "java/lang/System" "arraycopy" 5 + 11) ≤ R.locals)
    (K : ∀ T' h', St p l e R s m args below meth c n0 T' h' cells slots → Keep h h' [b] → AR Z h' b .byte (List.replicate n2 (.int (0 : Int32))) → Go p e below s n0 k n Q (T'.setTop (mkF m (pc + 3) Ls rest))) : Go p e below s n0 k n Q (T.setTop (mkF m pc Ls (.int nn :: .int 0 :: .ref b :: .int 0 :: .ref a :: rest))) := by
  obtain ⟨e0, hz, locs, N, X⟩ := X
  obtain ⟨k1, V1⟩ := F1.arv0
  obtain ⟨k2, V2⟩ := F2.arv0
  have q1 : n1 < 2 ^ 31 := by obtain ⟨_, _, _, q⟩ := F1; rw [List.length_replicate] at q; exact q
  have q2 : n2 < 2 ^ 31 := by obtain ⟨_, _, _, q⟩ := F2; rw [List.length_replicate] at q; exact q
  have c1 : n1.toInt32.toNatClampNeg = n1 := by simp only [Int32.toNatClampNeg, len_toInt q1]; rfl
  have c2 : n2.toInt32.toNatClampNeg = n2 := by simp only [Int32.toNatClampNeg, len_toInt q2]; rfl
  have z0 : (0 : Int32).toNatClampNeg = 0 := rfl
  obtain ⟨T', h', L, X', e', N', KK, V', st⟩ := cpA X C.hx C.hZ C.hown (C.w w1) (C.w w2) (C.w w3) (C.w w4) e0 V1 V2 (sp := 0) (dp := 0) (nn := nn) (Or.inl ⟨rfl, rfl⟩) (by decide) (by decide) hnn (by rw [z0, c1]; omega) (by rw [z0, c2]; omega) rfl (by rw [z0, List.length_replicate]; omega) N gb (g := mkF m pc Ls (.int nn :: .int 0 :: .ref b :: .int 0 :: .ref a :: rest)) rfl (hsz.trans C.hml.symm) rfl (hb C.hby hd) hf (W := W) (by show 2 * 0 + _ ≤ _; omega) hlo
  refine Go.st st (K T' h' ⟨e', hz, L, N', X'⟩ KK (Arv.ar0 q2 V' fun j => ?_))
  have g0 : ∀ (vs : List Value), (∀ x ∈ vs, x = .int (0 : Int32)) → vs.getD j (.int (0 : Int32)) = .int (0 : Int32) := fun vs hv => by
    rw [List.getD_eq_getElem?_getD]
    cases hq : vs[j]? with
    | none => rfl
    | some x => exact hv x (List.mem_of_getElem? hq)
  refine g0 _ fun x hx => ?_
  rcases List.mem_append.mp hx with hx | hx
  · rcases List.mem_append.mp hx with hx | hx
    · rw [z0] at hx; simp at hx
    · obtain ⟨y, -, rfl⟩ := List.mem_map.mp hx
      rw [List.getD_eq_getElem?_getD, List.getElem?_replicate]; split <;> rfl
  · exact (List.mem_replicate.mp (List.mem_of_mem_drop hx)).2
end One
end Jvm.OwnGo
namespace Jvm.Pilot.@@N@@
open Jvm Jvm.ClassFile Sem Op Lib Jvm.Free Jvm.Stand Jvm.LawKit Jvm.RoadKit Bundle Jvm.OwnGo Jvm.Pilot.@@N@@.Jvm.D
theorem staKeep {Z : State} {h h' : Heap} {C n d : String} {v : Value} (F : Sta Z h C n d v) (K : Keep h h' []) : Sta Z h' C n d v := by
  obtain ⟨cf, i, k, f, st, cell, h1, h2, h3, h4, h5, h6, h7⟩ := F
  exact ⟨cf, i, k, f, st, cell, h1, h2, h3, h4, K.2.1 st cell h5 nin0, h6, h7⟩
theorem slots8 {cl : Cell} {v0 v1 v2 v3 v4 v5 v6 v7 : Value} (hs : cl.slots.size = 8) (h0 : cl.slots[(0 : Int32).toNatClampNeg]? = some v0) (h1 : cl.slots[(1 : Int32).toNatClampNeg]? = some v1) (h2 : cl.slots[(2 : Int32).toNatClampNeg]? = some v2) (h3 : cl.slots[(3 : Int32).toNatClampNeg]? = some v3) (h4 : cl.slots[(4 : Int32).toNatClampNeg]? = some v4) (h5 : cl.slots[(5 : Int32).toNatClampNeg]? = some v5) (h6 : cl.slots[(6 : Int32).toNatClampNeg]? = some v6) (h7 : cl.slots[(7 : Int32).toNatClampNeg]? = some v7) : cl.slots = [v0, v1, v2, v3, v4, v5, v6, v7].toArray := by
  apply Array.ext_getElem?
  intro i
  match i with
  | 0 => exact h0
  | 1 => exact h1
  | 2 => exact h2
  | 3 => exact h3
  | 4 => exact h4
  | 5 => exact h5
  | 6 => exact h6
  | 7 => exact h7
  | i + 8 => rw [Array.getElem?_eq_none (by omega), Array.getElem?_eq_none (by simp)]
def ofF (y : Int32) (u0 u1 u2 u3 u4 u5 u6 u7 : Addr) : Addr := if (0 : Int32) = y then u0 else if (16 : Int32) = y then u1 else if (32 : Int32) = y then u2 else if (48 : Int32) = y then u3 else if (64 : Int32) = y then u4 else if (80 : Int32) = y then u5 else if (96 : Int32) = y then u6 else u7
def dbF (a u4 u5 : Addr) : Int32 := if a = u4 then 1 else if a = u5 then 1 else 0
theorem d2_0 : decode prog_72_method_1_code 0 = .ok (.getstatic 28, 3) := by decide +kernel
theorem d2_3 : decode prog_72_method_1_code 3 = .ok (.invokevirtual 32, 3) := by decide +kernel
theorem d2_6 : decode prog_72_method_1_code 6 = .ok (.checkcast 33, 3) := by decide +kernel
theorem d2_9 : decode prog_72_method_1_code 9 = .ok (.areturn, 1) := by decide +kernel
theorem pf_2 : plainFor (⟨"com/example/strict_attest/strictattest/evidence/arm/SecurityLifecycle", "values", "()[Lcom/example/strict_attest/strictattest/evidence/arm/SecurityLifecycle;"⟩ : MethodName) = true := plainFor_of_name (by first | (simp [plainName, overriddenIn]; done) | decide +kernel)
theorem pd_2 : parseMethodDescriptor "()[Lcom/example/strict_attest/strictattest/evidence/arm/SecurityLifecycle;" = some ⟨[], some (.array (.object "com/example/strict_attest/strictattest/evidence/arm/SecurityLifecycle"))⟩ := by decide +kernel
set_option maxRecDepth 65536 in
set_option maxHeartbeats 40000000 in
theorem con_values (l : Launch) (Z : State) (a0 : Array Value) (hw : ∀ d ∈ tables_1, d.before a0 Z = true) (n0 : Nat) (h0 : Heap) (Z0 : n0 ≤ h0.size) (av u0 u1 u2 u3 u4 u5 u6 u7 : Addr) (SV : Sta Z h0 "com/example/strict_attest/strictattest/evidence/arm/SecurityLifecycle" "$VALUES" "[Lcom/example/strict_attest/strictattest/evidence/arm/SecurityLifecycle;" (.ref av)) (EV : Exa Z h0 av "[Lcom/example/strict_attest/strictattest/evidence/arm/SecurityLifecycle;") (AV : AF Z h0 av (.object "com/example/strict_attest/strictattest/evidence/arm/SecurityLifecycle") [.ref u0, .ref u1, .ref u2, .ref u3, .ref u4, .ref u5, .ref u6, .ref u7]) :
    Con l Z (⟨"com/example/strict_attest/strictattest/evidence/arm/SecurityLifecycle", "values", "()[Lcom/example/strict_attest/strictattest/evidence/arm/SecurityLifecycle;"⟩ : MethodName) prog_72_method_1_code 0 (some (.array (.object "com/example/strict_attest/strictattest/evidence/arm/SecurityLifecycle"))) [] ({ frames := 1, cells := 1, slots := 8, locals := 14 } : Room) n0 #[] h0 (fun v h => ∃ b, v = some (.ref b) ∧ AR Z h b (.object "com/example/strict_attest/strictattest/evidence/arm/SecurityLifecycle") [.ref u0, .ref u1, .ref u2, .ref u3, .ref u4, .ref u5, .ref u6, .ref u7] ∧ Keep h0 h []) := by
  refine Con.mk pf_2 hw Z0 ?_
  intro p e s m below meth c T0 C X0
  have ef : entryFrame m #[] 0 = mkF m 0 #[] [] := by first | (simp [entryFrame, mkF, argsToLocals, Value.category]; done) | rfl
  rw [ef]
  show Go p e below s n0 _ _ _ (T0.setTop (mkF m 0 #[] []))
  refine Go.getS C X0 (wd 7 rfl) SV d2_0 (fun T101 X101 => ?_)
  show Go p e below s n0 _ _ _ (T101.setTop (mkF m 3 #[] [(.ref av)]))
  refine Go.clone C X101 (W := 0) (cap := 8) (wd 9 rfl) (wd 10 rfl) (wd 14 rfl) (wd 12 rfl) (wd 13 rfl) (wd 15 rfl) AV EV rfl d2_3 (by decide) (Nat.le_of_ble_eq_true rfl) (by decide) (Nat.le_of_ble_eq_true rfl) (by decide) (by decide) (fun T102 h102 b102 g102 ge102 X102 E102 A102 EX102 => ?_)
  have ne_av_b102 : av ≠ b102 := Nat.ne_of_lt (Nat.lt_of_lt_of_le (EV).lt (Nat.le_of_eq g102))
  have K102 : Keep h0 h102 [] := (Keep.refl h0 []).ext E102
  have old_b102 : h0.size ≤ b102 := Nat.le_trans (Keep.refl h0 []).1 (Nat.le_of_eq g102)
  show Go p e below s n0 _ _ _ (T102.setTop (mkF m 6 #[] [(.ref b102)]))
  refine Go.cast C X102 (wd 25 rfl) (Ins.self EX102) d2_6 (fun T103 X103 => ?_)
  show Go p e below s n0 _ _ _ (T103.setTop (mkF m 9 #[] [(.ref b102)]))
  exact Go.retA C X103 rfl rfl d2_9 ⟨_, rfl, A102, K102⟩ (by decide) (by decide)
theorem d1_0 : decode prog_72_method_4_code 0 = .ok (.iload_n 0, 1) := by decide +kernel
theorem d1_1 : decode prog_72_method_4_code 1 = .ok (.bipush 8, 2) := by decide +kernel
theorem d1_3 : decode prog_72_method_4_code 3 = .ok (.iushr, 1) := by decide +kernel
theorem d1_4 : decode prog_72_method_4_code 4 = .ok (.istore_n 1, 1) := by decide +kernel
theorem d1_5 : decode prog_72_method_4_code 5 = .ok (.invokestatic 57, 3) := by decide +kernel
theorem d1_8 : decode prog_72_method_4_code 8 = .ok (.astore_n 2, 1) := by decide +kernel
theorem d1_9 : decode prog_72_method_4_code 9 = .ok (.aload_n 2, 1) := by decide +kernel
theorem d1_10 : decode prog_72_method_4_code 10 = .ok (.arraylength, 1) := by decide +kernel
theorem d1_11 : decode prog_72_method_4_code 11 = .ok (.istore_n 3, 1) := by decide +kernel
theorem d1_12 : decode prog_72_method_4_code 12 = .ok (.iconst 0, 1) := by decide +kernel
theorem d1_13 : decode prog_72_method_4_code 13 = .ok (.istore 4, 2) := by decide +kernel
theorem d1_15 : decode prog_72_method_4_code 15 = .ok (.iload 4, 2) := by decide +kernel
theorem d1_17 : decode prog_72_method_4_code 17 = .ok (.iload_n 3, 1) := by decide +kernel
theorem d1_18 : decode prog_72_method_4_code 18 = .ok (.if_icmp .ge 27, 3) := by decide +kernel
theorem d1_21 : decode prog_72_method_4_code 21 = .ok (.aload_n 2, 1) := by decide +kernel
theorem d1_22 : decode prog_72_method_4_code 22 = .ok (.iload 4, 2) := by decide +kernel
theorem d1_24 : decode prog_72_method_4_code 24 = .ok (.aaload, 1) := by decide +kernel
theorem d1_25 : decode prog_72_method_4_code 25 = .ok (.astore 5, 2) := by decide +kernel
theorem d1_27 : decode prog_72_method_4_code 27 = .ok (.aload 5, 2) := by decide +kernel
theorem d1_29 : decode prog_72_method_4_code 29 = .ok (.getfield 47, 3) := by decide +kernel
theorem d1_32 : decode prog_72_method_4_code 32 = .ok (.iload_n 1, 1) := by decide +kernel
theorem d1_33 : decode prog_72_method_4_code 33 = .ok (.if_icmp .ne 6, 3) := by decide +kernel
theorem d1_36 : decode prog_72_method_4_code 36 = .ok (.aload 5, 2) := by decide +kernel
theorem d1_38 : decode prog_72_method_4_code 38 = .ok (.areturn, 1) := by decide +kernel
theorem d1_39 : decode prog_72_method_4_code 39 = .ok (.iinc 4 1, 3) := by decide +kernel
theorem d1_42 : decode prog_72_method_4_code 42 = .ok (.goto (-27), 3) := by decide +kernel
theorem d1_45 : decode prog_72_method_4_code 45 = .ok (.getstatic 25, 3) := by decide +kernel
theorem d1_48 : decode prog_72_method_4_code 48 = .ok (.areturn, 1) := by decide +kernel
theorem pf_1 : plainFor (⟨"com/example/strict_attest/strictattest/evidence/arm/SecurityLifecycle", "of", "(I)Lcom/example/strict_attest/strictattest/evidence/arm/SecurityLifecycle;"⟩ : MethodName) = true := plainFor_of_name (by first | (simp [plainName, overriddenIn]; done) | decide +kernel)
theorem pd_1 : parseMethodDescriptor "(I)Lcom/example/strict_attest/strictattest/evidence/arm/SecurityLifecycle;" = some ⟨[.int], some (.object "com/example/strict_attest/strictattest/evidence/arm/SecurityLifecycle")⟩ := by decide +kernel
set_option maxRecDepth 65536 in
set_option maxHeartbeats 40000000 in
theorem con_of (l : Launch) (Z : State) (a0 : Array Value) (hw : ∀ d ∈ tables_1, d.before a0 Z = true) (n0 : Nat) (h0 : Heap) (Z0 : n0 ≤ h0.size) (x : Int32) (av u0 u1 u2 u3 u4 u5 u6 u7 : Addr) (SV : Sta Z h0 "com/example/strict_attest/strictattest/evidence/arm/SecurityLifecycle" "$VALUES" "[Lcom/example/strict_attest/strictattest/evidence/arm/SecurityLifecycle;" (.ref av)) (EV : Exa Z h0 av "[Lcom/example/strict_attest/strictattest/evidence/arm/SecurityLifecycle;") (AV : AF Z h0 av (.object "com/example/strict_attest/strictattest/evidence/arm/SecurityLifecycle") [.ref u0, .ref u1, .ref u2, .ref u3, .ref u4, .ref u5, .ref u6, .ref u7]) (F0 : Fld Z h0 u0 "com/example/strict_attest/strictattest/evidence/arm/SecurityLifecycle" "upperByte" "I" (.int (0 : Int32))) (F1 : Fld Z h0 u1 "com/example/strict_attest/strictattest/evidence/arm/SecurityLifecycle" "upperByte" "I" (.int (16 : Int32))) (F2 : Fld Z h0 u2 "com/example/strict_attest/strictattest/evidence/arm/SecurityLifecycle" "upperByte" "I" (.int (32 : Int32))) (F3 : Fld Z h0 u3 "com/example/strict_attest/strictattest/evidence/arm/SecurityLifecycle" "upperByte" "I" (.int (48 : Int32))) (F4 : Fld Z h0 u4 "com/example/strict_attest/strictattest/evidence/arm/SecurityLifecycle" "upperByte" "I" (.int (64 : Int32))) (F5 : Fld Z h0 u5 "com/example/strict_attest/strictattest/evidence/arm/SecurityLifecycle" "upperByte" "I" (.int (80 : Int32))) (F6 : Fld Z h0 u6 "com/example/strict_attest/strictattest/evidence/arm/SecurityLifecycle" "upperByte" "I" (.int (96 : Int32))) (F7 : Fld Z h0 u7 "com/example/strict_attest/strictattest/evidence/arm/SecurityLifecycle" "upperByte" "I" (.int (-1 : Int32))) (S7 : Sta Z h0 "com/example/strict_attest/strictattest/evidence/arm/SecurityLifecycle" "UNDEFINED" "Lcom/example/strict_attest/strictattest/evidence/arm/SecurityLifecycle;" (.ref u7)) :
    Con l Z (⟨"com/example/strict_attest/strictattest/evidence/arm/SecurityLifecycle", "of", "(I)Lcom/example/strict_attest/strictattest/evidence/arm/SecurityLifecycle;"⟩ : MethodName) prog_72_method_4_code 6 (some (.object "com/example/strict_attest/strictattest/evidence/arm/SecurityLifecycle")) [] ({ frames := 2, cells := 1, slots := 8, locals := 25 } : Room) n0 #[(.int x)] h0 (fun v h => v = some (.ref (ofF (ius x (8 : Int32)) u0 u1 u2 u3 u4 u5 u6 u7)) ∧ Keep h0 h []) := by
  refine Con.mk pf_1 hw Z0 ?_
  intro p e s m below meth c T0 C X0
  have ef : entryFrame m #[(.int x)] 6 = mkF m 0 #[.val (.int x), .unset, .unset, .unset, .unset, .unset] [] := by first | (simp [entryFrame, mkF, argsToLocals, Value.category]; done) | rfl
  rw [ef]
  have _u := x
  show Go p e below s n0 _ _ _ (T0.setTop (mkF m 0 #[.val (.int x), .unset, .unset, .unset, .unset, .unset] []))
  refine Go.st (fun _ => XS.iloadN X0.here C.hx rfl (hb C.hby d1_0) rfl) ?_
  show Go p e below s n0 _ _ _ (T0.setTop (mkF m 1 #[.val (.int x), .unset, .unset, .unset, .unset, .unset] [(.int x)]))
  refine Go.st (fun _ => XS.bipush X0.here C.hx rfl (hb C.hby d1_1)) ?_
  show Go p e below s n0 _ _ _ (T0.setTop (mkF m 3 #[.val (.int x), .unset, .unset, .unset, .unset, .unset] [(.int (8 : Int32)), (.int x)]))
  refine Go.st (fun _ => XS.iushr X0.here C.hx rfl (hb C.hby d1_3) rfl) ?_
  show Go p e below s n0 _ _ _ (T0.setTop (mkF m 4 #[.val (.int x), .unset, .unset, .unset, .unset, .unset] [(.int (ius x (8 : Int32)))]))
  generalize hg_yy : (ius x (8 : Int32)) = yy
  refine Go.st (fun _ => XS.istoreN X0.here C.hx rfl (hb C.hby d1_4) rfl (l' := #[.val (.int x), .val (.int yy), .unset, .unset, .unset, .unset]) rfl) ?_
  show Go p e below s n0 _ _ _ (T0.setTop (mkF m 5 #[.val (.int x), .val (.int yy), .unset, .unset, .unset, .unset] []))
  refine Go.callS C X0 (W := 0) (argsL := []) (rest := []) (wd 4 rfl) (wd 5 rfl) (wd 2 rfl) (wd 6 rfl) (by decide) (con_values l Z a0 hw n0 h0 X0.size av u0 u1 u2 u3 u4 u5 u6 u7 SV EV AV) (by decide) (by decide) rfl (lenOf pd_2 rfl) (Nat.le_of_ble_eq_true rfl) rfl d1_5 (by decide) (by decide) (fun T104 h104 v104 X104 hQ104 => ?_)
  obtain ⟨b104, rfl, A104, K104⟩ := hQ104
  show Go p e below s n0 _ _ _ (T104.setTop (mkF m 8 #[.val (.int x), .val (.int yy), .unset, .unset, .unset, .unset] [(.ref b104)]))
  refine Go.st (fun _ => XS.astoreN X104.here C.hx rfl (hb C.hby d1_8) rfl rfl (l' := #[.val (.int x), .val (.int yy), .val (.ref b104), .unset, .unset, .unset]) rfl) ?_
  show Go p e below s n0 _ _ _ (T104.setTop (mkF m 9 #[.val (.int x), .val (.int yy), .val (.ref b104), .unset, .unset, .unset] []))
  refine Go.st (fun _ => XS.aloadN X104.here C.hx rfl (hb C.hby d1_9) rfl rfl) ?_
  show Go p e below s n0 _ _ _ (T104.setTop (mkF m 10 #[.val (.int x), .val (.int yy), .val (.ref b104), .unset, .unset, .unset] [(.ref b104)]))
  refine Go.alen C X104 A104 (z := (8 : Int32)) rfl d1_10 ?_
  show Go p e below s n0 _ _ _ (T104.setTop (mkF m 11 #[.val (.int x), .val (.int yy), .val (.ref b104), .unset, .unset, .unset] [(.int (8 : Int32))]))
  refine Go.st (fun _ => XS.istoreN X104.here C.hx rfl (hb C.hby d1_11) rfl (l' := #[.val (.int x), .val (.int yy), .val (.ref b104), .val (.int (8 : Int32)), .unset, .unset]) rfl) ?_
  show Go p e below s n0 _ _ _ (T104.setTop (mkF m 12 #[.val (.int x), .val (.int yy), .val (.ref b104), .val (.int (8 : Int32)), .unset, .unset] []))
  refine Go.st (fun _ => XS.iconst X104.here C.hx rfl (hb C.hby d1_12)) ?_
  show Go p e below s n0 _ _ _ (T104.setTop (mkF m 13 #[.val (.int x), .val (.int yy), .val (.ref b104), .val (.int (8 : Int32)), .unset, .unset] [(.int (0 : Int32))]))
  refine Go.st (fun _ => XS.istore X104.here C.hx rfl (hb C.hby d1_13) rfl (l' := #[.val (.int x), .val (.int yy), .val (.ref b104), .val (.int (8 : Int32)), .val (.int (0 : Int32)), .unset]) rfl) ?_
  show Go p e below s n0 _ _ _ (T104.setTop (mkF m 15 #[.val (.int x), .val (.int yy), .val (.ref b104), .val (.int (8 : Int32)), .val (.int (0 : Int32)), .unset] []))
  refine Go.st (fun _ => XS.iload X104.here C.hx rfl (hb C.hby d1_15) rfl) ?_
  show Go p e below s n0 _ _ _ (T104.setTop (mkF m 17 #[.val (.int x), .val (.int yy), .val (.ref b104), .val (.int (8 : Int32)), .val (.int (0 : Int32)), .unset] [(.int (0 : Int32))]))
  refine Go.st (fun _ => XS.iloadN X104.here C.hx rfl (hb C.hby d1_17) rfl) ?_
  show Go p e below s n0 _ _ _ (T104.setTop (mkF m 18 #[.val (.int x), .val (.int yy), .val (.ref b104), .val (.int (8 : Int32)), .val (.int (0 : Int32)), .unset] [(.int (8 : Int32)), (.int (0 : Int32))]))
  refine Go.icmp_ge C X104 (pc' := 45) d1_18 (by decide) (by decide) (fun hc => absurd hc (by decide)) (fun _ => ?_)
  show Go p e below s n0 _ _ _ (T104.setTop (mkF m 21 #[.val (.int x), .val (.int yy), .val (.ref b104), .val (.int (8 : Int32)), .val (.int (0 : Int32)), .unset] []))
  refine Go.st (fun _ => XS.aloadN X104.here C.hx rfl (hb C.hby d1_21) rfl rfl) ?_
  show Go p e below s n0 _ _ _ (T104.setTop (mkF m 22 #[.val (.int x), .val (.int yy), .val (.ref b104), .val (.int (8 : Int32)), .val (.int (0 : Int32)), .unset] [(.ref b104)]))
  refine Go.st (fun _ => XS.iload X104.here C.hx rfl (hb C.hby d1_22) rfl) ?_
  show Go p e below s n0 _ _ _ (T104.setTop (mkF m 24 #[.val (.int x), .val (.int yy), .val (.ref b104), .val (.int (8 : Int32)), .val (.int (0 : Int32)), .unset] [(.int (0 : Int32)), (.ref b104)]))
  refine Go.aaload C X104 A104 rfl (by decide) rfl d1_24 ?_
  show Go p e below s n0 _ _ _ (T104.setTop (mkF m 25 #[.val (.int x), .val (.int yy), .val (.ref b104), .val (.int (8 : Int32)), .val (.int (0 : Int32)), .unset] [(.ref u0)]))
  refine Go.st (fun _ => XS.astore X104.here C.hx rfl (hb C.hby d1_25) rfl rfl (l' := #[.val (.int x), .val (.int yy), .val (.ref b104), .val (.int (8 : Int32)), .val (.int (0 : Int32)), .val (.ref u0)]) rfl) ?_
  show Go p e below s n0 _ _ _ (T104.setTop (mkF m 27 #[.val (.int x), .val (.int yy), .val (.ref b104), .val (.int (8 : Int32)), .val (.int (0 : Int32)), .val (.ref u0)] []))
  refine Go.st (fun _ => XS.aload X104.here C.hx rfl (hb C.hby d1_27) rfl rfl) ?_
  show Go p e below s n0 _ _ _ (T104.setTop (mkF m 29 #[.val (.int x), .val (.int yy), .val (.ref b104), .val (.int (8 : Int32)), .val (.int (0 : Int32)), .val (.ref u0)] [(.ref u0)]))
  refine Go.getF C X104 (wd 27 rfl) (F0.keep K104 nin0) d1_29 (fun T106 X106 => ?_)
  show Go p e below s n0 _ _ _ (T106.setTop (mkF m 32 #[.val (.int x), .val (.int yy), .val (.ref b104), .val (.int (8 : Int32)), .val (.int (0 : Int32)), .val (.ref u0)] [(.int (0 : Int32))]))
  refine Go.st (fun _ => XS.iloadN X106.here C.hx rfl (hb C.hby d1_32) rfl) ?_
  show Go p e below s n0 _ _ _ (T106.setTop (mkF m 33 #[.val (.int x), .val (.int yy), .val (.ref b104), .val (.int (8 : Int32)), .val (.int (0 : Int32)), .val (.ref u0)] [(.int yy), (.int (0 : Int32))]))
  refine Go.icmp_ne C X106 (pc' := 39) d1_33 (by decide) (by decide) (fun hc33_107 => ?_) (fun hc33_107 => ?_)
  · show Go p e below s n0 _ _ _ (T106.setTop (mkF m 39 #[.val (.int x), .val (.int yy), .val (.ref b104), .val (.int (8 : Int32)), .val (.int (0 : Int32)), .val (.ref u0)] []))
    refine Go.st (fun _ => XS.iinc X106.here C.hx rfl (hb C.hby d1_39) rfl (l' := #[.val (.int x), .val (.int yy), .val (.ref b104), .val (.int (8 : Int32)), .val (.int (1 : Int32)), .val (.ref u0)]) rfl) ?_
    show Go p e below s n0 _ _ _ (T106.setTop (mkF m 42 #[.val (.int x), .val (.int yy), .val (.ref b104), .val (.int (8 : Int32)), .val (.int (1 : Int32)), .val (.ref u0)] []))
    refine Go.st (fun _ => XS.goto X106.here C.hx rfl (pc0 := 42) (pc' := 15) rfl (hb C.hby d1_42) (by decide) (by decide)) ?_
    show Go p e below s n0 _ _ _ (T106.setTop (mkF m 15 #[.val (.int x), .val (.int yy), .val (.ref b104), .val (.int (8 : Int32)), .val (.int (1 : Int32)), .val (.ref u0)] []))
    refine Go.st (fun _ => XS.iload X106.here C.hx rfl (hb C.hby d1_15) rfl) ?_
    show Go p e below s n0 _ _ _ (T106.setTop (mkF m 17 #[.val (.int x), .val (.int yy), .val (.ref b104), .val (.int (8 : Int32)), .val (.int (1 : Int32)), .val (.ref u0)] [(.int (1 : Int32))]))
    refine Go.st (fun _ => XS.iloadN X106.here C.hx rfl (hb C.hby d1_17) rfl) ?_
    show Go p e below s n0 _ _ _ (T106.setTop (mkF m 18 #[.val (.int x), .val (.int yy), .val (.ref b104), .val (.int (8 : Int32)), .val (.int (1 : Int32)), .val (.ref u0)] [(.int (8 : Int32)), (.int (1 : Int32))]))
    refine Go.icmp_ge C X106 (pc' := 45) d1_18 (by decide) (by decide) (fun hc => absurd hc (by decide)) (fun _ => ?_)
    show Go p e below s n0 _ _ _ (T106.setTop (mkF m 21 #[.val (.int x), .val (.int yy), .val (.ref b104), .val (.int (8 : Int32)), .val (.int (1 : Int32)), .val (.ref u0)] []))
    refine Go.st (fun _ => XS.aloadN X106.here C.hx rfl (hb C.hby d1_21) rfl rfl) ?_
    show Go p e below s n0 _ _ _ (T106.setTop (mkF m 22 #[.val (.int x), .val (.int yy), .val (.ref b104), .val (.int (8 : Int32)), .val (.int (1 : Int32)), .val (.ref u0)] [(.ref b104)]))
    refine Go.st (fun _ => XS.iload X106.here C.hx rfl (hb C.hby d1_22) rfl) ?_
    show Go p e below s n0 _ _ _ (T106.setTop (mkF m 24 #[.val (.int x), .val (.int yy), .val (.ref b104), .val (.int (8 : Int32)), .val (.int (1 : Int32)), .val (.ref u0)] [(.int (1 : Int32)), (.ref b104)]))
    refine Go.aaload C X106 A104 rfl (by decide) rfl d1_24 ?_
    show Go p e below s n0 _ _ _ (T106.setTop (mkF m 25 #[.val (.int x), .val (.int yy), .val (.ref b104), .val (.int (8 : Int32)), .val (.int (1 : Int32)), .val (.ref u0)] [(.ref u1)]))
    refine Go.st (fun _ => XS.astore X106.here C.hx rfl (hb C.hby d1_25) rfl rfl (l' := #[.val (.int x), .val (.int yy), .val (.ref b104), .val (.int (8 : Int32)), .val (.int (1 : Int32)), .val (.ref u1)]) rfl) ?_
    show Go p e below s n0 _ _ _ (T106.setTop (mkF m 27 #[.val (.int x), .val (.int yy), .val (.ref b104), .val (.int (8 : Int32)), .val (.int (1 : Int32)), .val (.ref u1)] []))
    refine Go.st (fun _ => XS.aload X106.here C.hx rfl (hb C.hby d1_27) rfl rfl) ?_
    show Go p e below s n0 _ _ _ (T106.setTop (mkF m 29 #[.val (.int x), .val (.int yy), .val (.ref b104), .val (.int (8 : Int32)), .val (.int (1 : Int32)), .val (.ref u1)] [(.ref u1)]))
    refine Go.getF C X106 (wd 27 rfl) (F1.keep K104 nin0) d1_29 (fun T109 X109 => ?_)
    show Go p e below s n0 _ _ _ (T109.setTop (mkF m 32 #[.val (.int x), .val (.int yy), .val (.ref b104), .val (.int (8 : Int32)), .val (.int (1 : Int32)), .val (.ref u1)] [(.int (16 : Int32))]))
    refine Go.st (fun _ => XS.iloadN X109.here C.hx rfl (hb C.hby d1_32) rfl) ?_
    show Go p e below s n0 _ _ _ (T109.setTop (mkF m 33 #[.val (.int x), .val (.int yy), .val (.ref b104), .val (.int (8 : Int32)), .val (.int (1 : Int32)), .val (.ref u1)] [(.int yy), (.int (16 : Int32))]))
    refine Go.icmp_ne C X109 (pc' := 39) d1_33 (by decide) (by decide) (fun hc33_110 => ?_) (fun hc33_110 => ?_)
    · show Go p e below s n0 _ _ _ (T109.setTop (mkF m 39 #[.val (.int x), .val (.int yy), .val (.ref b104), .val (.int (8 : Int32)), .val (.int (1 : Int32)), .val (.ref u1)] []))
      refine Go.st (fun _ => XS.iinc X109.here C.hx rfl (hb C.hby d1_39) rfl (l' := #[.val (.int x), .val (.int yy), .val (.ref b104), .val (.int (8 : Int32)), .val (.int (2 : Int32)), .val (.ref u1)]) rfl) ?_
      show Go p e below s n0 _ _ _ (T109.setTop (mkF m 42 #[.val (.int x), .val (.int yy), .val (.ref b104), .val (.int (8 : Int32)), .val (.int (2 : Int32)), .val (.ref u1)] []))
      refine Go.st (fun _ => XS.goto X109.here C.hx rfl (pc0 := 42) (pc' := 15) rfl (hb C.hby d1_42) (by decide) (by decide)) ?_
      show Go p e below s n0 _ _ _ (T109.setTop (mkF m 15 #[.val (.int x), .val (.int yy), .val (.ref b104), .val (.int (8 : Int32)), .val (.int (2 : Int32)), .val (.ref u1)] []))
      refine Go.st (fun _ => XS.iload X109.here C.hx rfl (hb C.hby d1_15) rfl) ?_
      show Go p e below s n0 _ _ _ (T109.setTop (mkF m 17 #[.val (.int x), .val (.int yy), .val (.ref b104), .val (.int (8 : Int32)), .val (.int (2 : Int32)), .val (.ref u1)] [(.int (2 : Int32))]))
      refine Go.st (fun _ => XS.iloadN X109.here C.hx rfl (hb C.hby d1_17) rfl) ?_
      show Go p e below s n0 _ _ _ (T109.setTop (mkF m 18 #[.val (.int x), .val (.int yy), .val (.ref b104), .val (.int (8 : Int32)), .val (.int (2 : Int32)), .val (.ref u1)] [(.int (8 : Int32)), (.int (2 : Int32))]))
      refine Go.icmp_ge C X109 (pc' := 45) d1_18 (by decide) (by decide) (fun hc => absurd hc (by decide)) (fun _ => ?_)
      show Go p e below s n0 _ _ _ (T109.setTop (mkF m 21 #[.val (.int x), .val (.int yy), .val (.ref b104), .val (.int (8 : Int32)), .val (.int (2 : Int32)), .val (.ref u1)] []))
      refine Go.st (fun _ => XS.aloadN X109.here C.hx rfl (hb C.hby d1_21) rfl rfl) ?_
      show Go p e below s n0 _ _ _ (T109.setTop (mkF m 22 #[.val (.int x), .val (.int yy), .val (.ref b104), .val (.int (8 : Int32)), .val (.int (2 : Int32)), .val (.ref u1)] [(.ref b104)]))
      refine Go.st (fun _ => XS.iload X109.here C.hx rfl (hb C.hby d1_22) rfl) ?_
      show Go p e below s n0 _ _ _ (T109.setTop (mkF m 24 #[.val (.int x), .val (.int yy), .val (.ref b104), .val (.int (8 : Int32)), .val (.int (2 : Int32)), .val (.ref u1)] [(.int (2 : Int32)), (.ref b104)]))
      refine Go.aaload C X109 A104 rfl (by decide) rfl d1_24 ?_
      show Go p e below s n0 _ _ _ (T109.setTop (mkF m 25 #[.val (.int x), .val (.int yy), .val (.ref b104), .val (.int (8 : Int32)), .val (.int (2 : Int32)), .val (.ref u1)] [(.ref u2)]))
      refine Go.st (fun _ => XS.astore X109.here C.hx rfl (hb C.hby d1_25) rfl rfl (l' := #[.val (.int x), .val (.int yy), .val (.ref b104), .val (.int (8 : Int32)), .val (.int (2 : Int32)), .val (.ref u2)]) rfl) ?_
      show Go p e below s n0 _ _ _ (T109.setTop (mkF m 27 #[.val (.int x), .val (.int yy), .val (.ref b104), .val (.int (8 : Int32)), .val (.int (2 : Int32)), .val (.ref u2)] []))
      refine Go.st (fun _ => XS.aload X109.here C.hx rfl (hb C.hby d1_27) rfl rfl) ?_
      show Go p e below s n0 _ _ _ (T109.setTop (mkF m 29 #[.val (.int x), .val (.int yy), .val (.ref b104), .val (.int (8 : Int32)), .val (.int (2 : Int32)), .val (.ref u2)] [(.ref u2)]))
      refine Go.getF C X109 (wd 27 rfl) (F2.keep K104 nin0) d1_29 (fun T112 X112 => ?_)
      show Go p e below s n0 _ _ _ (T112.setTop (mkF m 32 #[.val (.int x), .val (.int yy), .val (.ref b104), .val (.int (8 : Int32)), .val (.int (2 : Int32)), .val (.ref u2)] [(.int (32 : Int32))]))
      refine Go.st (fun _ => XS.iloadN X112.here C.hx rfl (hb C.hby d1_32) rfl) ?_
      show Go p e below s n0 _ _ _ (T112.setTop (mkF m 33 #[.val (.int x), .val (.int yy), .val (.ref b104), .val (.int (8 : Int32)), .val (.int (2 : Int32)), .val (.ref u2)] [(.int yy), (.int (32 : Int32))]))
      refine Go.icmp_ne C X112 (pc' := 39) d1_33 (by decide) (by decide) (fun hc33_113 => ?_) (fun hc33_113 => ?_)
      · show Go p e below s n0 _ _ _ (T112.setTop (mkF m 39 #[.val (.int x), .val (.int yy), .val (.ref b104), .val (.int (8 : Int32)), .val (.int (2 : Int32)), .val (.ref u2)] []))
        refine Go.st (fun _ => XS.iinc X112.here C.hx rfl (hb C.hby d1_39) rfl (l' := #[.val (.int x), .val (.int yy), .val (.ref b104), .val (.int (8 : Int32)), .val (.int (3 : Int32)), .val (.ref u2)]) rfl) ?_
        show Go p e below s n0 _ _ _ (T112.setTop (mkF m 42 #[.val (.int x), .val (.int yy), .val (.ref b104), .val (.int (8 : Int32)), .val (.int (3 : Int32)), .val (.ref u2)] []))
        refine Go.st (fun _ => XS.goto X112.here C.hx rfl (pc0 := 42) (pc' := 15) rfl (hb C.hby d1_42) (by decide) (by decide)) ?_
        show Go p e below s n0 _ _ _ (T112.setTop (mkF m 15 #[.val (.int x), .val (.int yy), .val (.ref b104), .val (.int (8 : Int32)), .val (.int (3 : Int32)), .val (.ref u2)] []))
        refine Go.st (fun _ => XS.iload X112.here C.hx rfl (hb C.hby d1_15) rfl) ?_
        show Go p e below s n0 _ _ _ (T112.setTop (mkF m 17 #[.val (.int x), .val (.int yy), .val (.ref b104), .val (.int (8 : Int32)), .val (.int (3 : Int32)), .val (.ref u2)] [(.int (3 : Int32))]))
        refine Go.st (fun _ => XS.iloadN X112.here C.hx rfl (hb C.hby d1_17) rfl) ?_
        show Go p e below s n0 _ _ _ (T112.setTop (mkF m 18 #[.val (.int x), .val (.int yy), .val (.ref b104), .val (.int (8 : Int32)), .val (.int (3 : Int32)), .val (.ref u2)] [(.int (8 : Int32)), (.int (3 : Int32))]))
        refine Go.icmp_ge C X112 (pc' := 45) d1_18 (by decide) (by decide) (fun hc => absurd hc (by decide)) (fun _ => ?_)
        show Go p e below s n0 _ _ _ (T112.setTop (mkF m 21 #[.val (.int x), .val (.int yy), .val (.ref b104), .val (.int (8 : Int32)), .val (.int (3 : Int32)), .val (.ref u2)] []))
        refine Go.st (fun _ => XS.aloadN X112.here C.hx rfl (hb C.hby d1_21) rfl rfl) ?_
        show Go p e below s n0 _ _ _ (T112.setTop (mkF m 22 #[.val (.int x), .val (.int yy), .val (.ref b104), .val (.int (8 : Int32)), .val (.int (3 : Int32)), .val (.ref u2)] [(.ref b104)]))
        refine Go.st (fun _ => XS.iload X112.here C.hx rfl (hb C.hby d1_22) rfl) ?_
        show Go p e below s n0 _ _ _ (T112.setTop (mkF m 24 #[.val (.int x), .val (.int yy), .val (.ref b104), .val (.int (8 : Int32)), .val (.int (3 : Int32)), .val (.ref u2)] [(.int (3 : Int32)), (.ref b104)]))
        refine Go.aaload C X112 A104 rfl (by decide) rfl d1_24 ?_
        show Go p e below s n0 _ _ _ (T112.setTop (mkF m 25 #[.val (.int x), .val (.int yy), .val (.ref b104), .val (.int (8 : Int32)), .val (.int (3 : Int32)), .val (.ref u2)] [(.ref u3)]))
        refine Go.st (fun _ => XS.astore X112.here C.hx rfl (hb C.hby d1_25) rfl rfl (l' := #[.val (.int x), .val (.int yy), .val (.ref b104), .val (.int (8 : Int32)), .val (.int (3 : Int32)), .val (.ref u3)]) rfl) ?_
        show Go p e below s n0 _ _ _ (T112.setTop (mkF m 27 #[.val (.int x), .val (.int yy), .val (.ref b104), .val (.int (8 : Int32)), .val (.int (3 : Int32)), .val (.ref u3)] []))
        refine Go.st (fun _ => XS.aload X112.here C.hx rfl (hb C.hby d1_27) rfl rfl) ?_
        show Go p e below s n0 _ _ _ (T112.setTop (mkF m 29 #[.val (.int x), .val (.int yy), .val (.ref b104), .val (.int (8 : Int32)), .val (.int (3 : Int32)), .val (.ref u3)] [(.ref u3)]))
        refine Go.getF C X112 (wd 27 rfl) (F3.keep K104 nin0) d1_29 (fun T115 X115 => ?_)
        show Go p e below s n0 _ _ _ (T115.setTop (mkF m 32 #[.val (.int x), .val (.int yy), .val (.ref b104), .val (.int (8 : Int32)), .val (.int (3 : Int32)), .val (.ref u3)] [(.int (48 : Int32))]))
        refine Go.st (fun _ => XS.iloadN X115.here C.hx rfl (hb C.hby d1_32) rfl) ?_
        show Go p e below s n0 _ _ _ (T115.setTop (mkF m 33 #[.val (.int x), .val (.int yy), .val (.ref b104), .val (.int (8 : Int32)), .val (.int (3 : Int32)), .val (.ref u3)] [(.int yy), (.int (48 : Int32))]))
        refine Go.icmp_ne C X115 (pc' := 39) d1_33 (by decide) (by decide) (fun hc33_116 => ?_) (fun hc33_116 => ?_)
        · show Go p e below s n0 _ _ _ (T115.setTop (mkF m 39 #[.val (.int x), .val (.int yy), .val (.ref b104), .val (.int (8 : Int32)), .val (.int (3 : Int32)), .val (.ref u3)] []))
          refine Go.st (fun _ => XS.iinc X115.here C.hx rfl (hb C.hby d1_39) rfl (l' := #[.val (.int x), .val (.int yy), .val (.ref b104), .val (.int (8 : Int32)), .val (.int (4 : Int32)), .val (.ref u3)]) rfl) ?_
          show Go p e below s n0 _ _ _ (T115.setTop (mkF m 42 #[.val (.int x), .val (.int yy), .val (.ref b104), .val (.int (8 : Int32)), .val (.int (4 : Int32)), .val (.ref u3)] []))
          refine Go.st (fun _ => XS.goto X115.here C.hx rfl (pc0 := 42) (pc' := 15) rfl (hb C.hby d1_42) (by decide) (by decide)) ?_
          show Go p e below s n0 _ _ _ (T115.setTop (mkF m 15 #[.val (.int x), .val (.int yy), .val (.ref b104), .val (.int (8 : Int32)), .val (.int (4 : Int32)), .val (.ref u3)] []))
          refine Go.st (fun _ => XS.iload X115.here C.hx rfl (hb C.hby d1_15) rfl) ?_
          show Go p e below s n0 _ _ _ (T115.setTop (mkF m 17 #[.val (.int x), .val (.int yy), .val (.ref b104), .val (.int (8 : Int32)), .val (.int (4 : Int32)), .val (.ref u3)] [(.int (4 : Int32))]))
          refine Go.st (fun _ => XS.iloadN X115.here C.hx rfl (hb C.hby d1_17) rfl) ?_
          show Go p e below s n0 _ _ _ (T115.setTop (mkF m 18 #[.val (.int x), .val (.int yy), .val (.ref b104), .val (.int (8 : Int32)), .val (.int (4 : Int32)), .val (.ref u3)] [(.int (8 : Int32)), (.int (4 : Int32))]))
          refine Go.icmp_ge C X115 (pc' := 45) d1_18 (by decide) (by decide) (fun hc => absurd hc (by decide)) (fun _ => ?_)
          show Go p e below s n0 _ _ _ (T115.setTop (mkF m 21 #[.val (.int x), .val (.int yy), .val (.ref b104), .val (.int (8 : Int32)), .val (.int (4 : Int32)), .val (.ref u3)] []))
          refine Go.st (fun _ => XS.aloadN X115.here C.hx rfl (hb C.hby d1_21) rfl rfl) ?_
          show Go p e below s n0 _ _ _ (T115.setTop (mkF m 22 #[.val (.int x), .val (.int yy), .val (.ref b104), .val (.int (8 : Int32)), .val (.int (4 : Int32)), .val (.ref u3)] [(.ref b104)]))
          refine Go.st (fun _ => XS.iload X115.here C.hx rfl (hb C.hby d1_22) rfl) ?_
          show Go p e below s n0 _ _ _ (T115.setTop (mkF m 24 #[.val (.int x), .val (.int yy), .val (.ref b104), .val (.int (8 : Int32)), .val (.int (4 : Int32)), .val (.ref u3)] [(.int (4 : Int32)), (.ref b104)]))
          refine Go.aaload C X115 A104 rfl (by decide) rfl d1_24 ?_
          show Go p e below s n0 _ _ _ (T115.setTop (mkF m 25 #[.val (.int x), .val (.int yy), .val (.ref b104), .val (.int (8 : Int32)), .val (.int (4 : Int32)), .val (.ref u3)] [(.ref u4)]))
          refine Go.st (fun _ => XS.astore X115.here C.hx rfl (hb C.hby d1_25) rfl rfl (l' := #[.val (.int x), .val (.int yy), .val (.ref b104), .val (.int (8 : Int32)), .val (.int (4 : Int32)), .val (.ref u4)]) rfl) ?_
          show Go p e below s n0 _ _ _ (T115.setTop (mkF m 27 #[.val (.int x), .val (.int yy), .val (.ref b104), .val (.int (8 : Int32)), .val (.int (4 : Int32)), .val (.ref u4)] []))
          refine Go.st (fun _ => XS.aload X115.here C.hx rfl (hb C.hby d1_27) rfl rfl) ?_
          show Go p e below s n0 _ _ _ (T115.setTop (mkF m 29 #[.val (.int x), .val (.int yy), .val (.ref b104), .val (.int (8 : Int32)), .val (.int (4 : Int32)), .val (.ref u4)] [(.ref u4)]))
          refine Go.getF C X115 (wd 27 rfl) (F4.keep K104 nin0) d1_29 (fun T118 X118 => ?_)
          show Go p e below s n0 _ _ _ (T118.setTop (mkF m 32 #[.val (.int x), .val (.int yy), .val (.ref b104), .val (.int (8 : Int32)), .val (.int (4 : Int32)), .val (.ref u4)] [(.int (64 : Int32))]))
          refine Go.st (fun _ => XS.iloadN X118.here C.hx rfl (hb C.hby d1_32) rfl) ?_
          show Go p e below s n0 _ _ _ (T118.setTop (mkF m 33 #[.val (.int x), .val (.int yy), .val (.ref b104), .val (.int (8 : Int32)), .val (.int (4 : Int32)), .val (.ref u4)] [(.int yy), (.int (64 : Int32))]))
          refine Go.icmp_ne C X118 (pc' := 39) d1_33 (by decide) (by decide) (fun hc33_119 => ?_) (fun hc33_119 => ?_)
          · show Go p e below s n0 _ _ _ (T118.setTop (mkF m 39 #[.val (.int x), .val (.int yy), .val (.ref b104), .val (.int (8 : Int32)), .val (.int (4 : Int32)), .val (.ref u4)] []))
            refine Go.st (fun _ => XS.iinc X118.here C.hx rfl (hb C.hby d1_39) rfl (l' := #[.val (.int x), .val (.int yy), .val (.ref b104), .val (.int (8 : Int32)), .val (.int (5 : Int32)), .val (.ref u4)]) rfl) ?_
            show Go p e below s n0 _ _ _ (T118.setTop (mkF m 42 #[.val (.int x), .val (.int yy), .val (.ref b104), .val (.int (8 : Int32)), .val (.int (5 : Int32)), .val (.ref u4)] []))
            refine Go.st (fun _ => XS.goto X118.here C.hx rfl (pc0 := 42) (pc' := 15) rfl (hb C.hby d1_42) (by decide) (by decide)) ?_
            show Go p e below s n0 _ _ _ (T118.setTop (mkF m 15 #[.val (.int x), .val (.int yy), .val (.ref b104), .val (.int (8 : Int32)), .val (.int (5 : Int32)), .val (.ref u4)] []))
            refine Go.st (fun _ => XS.iload X118.here C.hx rfl (hb C.hby d1_15) rfl) ?_
            show Go p e below s n0 _ _ _ (T118.setTop (mkF m 17 #[.val (.int x), .val (.int yy), .val (.ref b104), .val (.int (8 : Int32)), .val (.int (5 : Int32)), .val (.ref u4)] [(.int (5 : Int32))]))
            refine Go.st (fun _ => XS.iloadN X118.here C.hx rfl (hb C.hby d1_17) rfl) ?_
            show Go p e below s n0 _ _ _ (T118.setTop (mkF m 18 #[.val (.int x), .val (.int yy), .val (.ref b104), .val (.int (8 : Int32)), .val (.int (5 : Int32)), .val (.ref u4)] [(.int (8 : Int32)), (.int (5 : Int32))]))
            refine Go.icmp_ge C X118 (pc' := 45) d1_18 (by decide) (by decide) (fun hc => absurd hc (by decide)) (fun _ => ?_)
            show Go p e below s n0 _ _ _ (T118.setTop (mkF m 21 #[.val (.int x), .val (.int yy), .val (.ref b104), .val (.int (8 : Int32)), .val (.int (5 : Int32)), .val (.ref u4)] []))
            refine Go.st (fun _ => XS.aloadN X118.here C.hx rfl (hb C.hby d1_21) rfl rfl) ?_
            show Go p e below s n0 _ _ _ (T118.setTop (mkF m 22 #[.val (.int x), .val (.int yy), .val (.ref b104), .val (.int (8 : Int32)), .val (.int (5 : Int32)), .val (.ref u4)] [(.ref b104)]))
            refine Go.st (fun _ => XS.iload X118.here C.hx rfl (hb C.hby d1_22) rfl) ?_
            show Go p e below s n0 _ _ _ (T118.setTop (mkF m 24 #[.val (.int x), .val (.int yy), .val (.ref b104), .val (.int (8 : Int32)), .val (.int (5 : Int32)), .val (.ref u4)] [(.int (5 : Int32)), (.ref b104)]))
            refine Go.aaload C X118 A104 rfl (by decide) rfl d1_24 ?_
            show Go p e below s n0 _ _ _ (T118.setTop (mkF m 25 #[.val (.int x), .val (.int yy), .val (.ref b104), .val (.int (8 : Int32)), .val (.int (5 : Int32)), .val (.ref u4)] [(.ref u5)]))
            refine Go.st (fun _ => XS.astore X118.here C.hx rfl (hb C.hby d1_25) rfl rfl (l' := #[.val (.int x), .val (.int yy), .val (.ref b104), .val (.int (8 : Int32)), .val (.int (5 : Int32)), .val (.ref u5)]) rfl) ?_
            show Go p e below s n0 _ _ _ (T118.setTop (mkF m 27 #[.val (.int x), .val (.int yy), .val (.ref b104), .val (.int (8 : Int32)), .val (.int (5 : Int32)), .val (.ref u5)] []))
            refine Go.st (fun _ => XS.aload X118.here C.hx rfl (hb C.hby d1_27) rfl rfl) ?_
            show Go p e below s n0 _ _ _ (T118.setTop (mkF m 29 #[.val (.int x), .val (.int yy), .val (.ref b104), .val (.int (8 : Int32)), .val (.int (5 : Int32)), .val (.ref u5)] [(.ref u5)]))
            refine Go.getF C X118 (wd 27 rfl) (F5.keep K104 nin0) d1_29 (fun T121 X121 => ?_)
            show Go p e below s n0 _ _ _ (T121.setTop (mkF m 32 #[.val (.int x), .val (.int yy), .val (.ref b104), .val (.int (8 : Int32)), .val (.int (5 : Int32)), .val (.ref u5)] [(.int (80 : Int32))]))
            refine Go.st (fun _ => XS.iloadN X121.here C.hx rfl (hb C.hby d1_32) rfl) ?_
            show Go p e below s n0 _ _ _ (T121.setTop (mkF m 33 #[.val (.int x), .val (.int yy), .val (.ref b104), .val (.int (8 : Int32)), .val (.int (5 : Int32)), .val (.ref u5)] [(.int yy), (.int (80 : Int32))]))
            refine Go.icmp_ne C X121 (pc' := 39) d1_33 (by decide) (by decide) (fun hc33_122 => ?_) (fun hc33_122 => ?_)
            · show Go p e below s n0 _ _ _ (T121.setTop (mkF m 39 #[.val (.int x), .val (.int yy), .val (.ref b104), .val (.int (8 : Int32)), .val (.int (5 : Int32)), .val (.ref u5)] []))
              refine Go.st (fun _ => XS.iinc X121.here C.hx rfl (hb C.hby d1_39) rfl (l' := #[.val (.int x), .val (.int yy), .val (.ref b104), .val (.int (8 : Int32)), .val (.int (6 : Int32)), .val (.ref u5)]) rfl) ?_
              show Go p e below s n0 _ _ _ (T121.setTop (mkF m 42 #[.val (.int x), .val (.int yy), .val (.ref b104), .val (.int (8 : Int32)), .val (.int (6 : Int32)), .val (.ref u5)] []))
              refine Go.st (fun _ => XS.goto X121.here C.hx rfl (pc0 := 42) (pc' := 15) rfl (hb C.hby d1_42) (by decide) (by decide)) ?_
              show Go p e below s n0 _ _ _ (T121.setTop (mkF m 15 #[.val (.int x), .val (.int yy), .val (.ref b104), .val (.int (8 : Int32)), .val (.int (6 : Int32)), .val (.ref u5)] []))
              refine Go.st (fun _ => XS.iload X121.here C.hx rfl (hb C.hby d1_15) rfl) ?_
              show Go p e below s n0 _ _ _ (T121.setTop (mkF m 17 #[.val (.int x), .val (.int yy), .val (.ref b104), .val (.int (8 : Int32)), .val (.int (6 : Int32)), .val (.ref u5)] [(.int (6 : Int32))]))
              refine Go.st (fun _ => XS.iloadN X121.here C.hx rfl (hb C.hby d1_17) rfl) ?_
              show Go p e below s n0 _ _ _ (T121.setTop (mkF m 18 #[.val (.int x), .val (.int yy), .val (.ref b104), .val (.int (8 : Int32)), .val (.int (6 : Int32)), .val (.ref u5)] [(.int (8 : Int32)), (.int (6 : Int32))]))
              refine Go.icmp_ge C X121 (pc' := 45) d1_18 (by decide) (by decide) (fun hc => absurd hc (by decide)) (fun _ => ?_)
              show Go p e below s n0 _ _ _ (T121.setTop (mkF m 21 #[.val (.int x), .val (.int yy), .val (.ref b104), .val (.int (8 : Int32)), .val (.int (6 : Int32)), .val (.ref u5)] []))
              refine Go.st (fun _ => XS.aloadN X121.here C.hx rfl (hb C.hby d1_21) rfl rfl) ?_
              show Go p e below s n0 _ _ _ (T121.setTop (mkF m 22 #[.val (.int x), .val (.int yy), .val (.ref b104), .val (.int (8 : Int32)), .val (.int (6 : Int32)), .val (.ref u5)] [(.ref b104)]))
              refine Go.st (fun _ => XS.iload X121.here C.hx rfl (hb C.hby d1_22) rfl) ?_
              show Go p e below s n0 _ _ _ (T121.setTop (mkF m 24 #[.val (.int x), .val (.int yy), .val (.ref b104), .val (.int (8 : Int32)), .val (.int (6 : Int32)), .val (.ref u5)] [(.int (6 : Int32)), (.ref b104)]))
              refine Go.aaload C X121 A104 rfl (by decide) rfl d1_24 ?_
              show Go p e below s n0 _ _ _ (T121.setTop (mkF m 25 #[.val (.int x), .val (.int yy), .val (.ref b104), .val (.int (8 : Int32)), .val (.int (6 : Int32)), .val (.ref u5)] [(.ref u6)]))
              refine Go.st (fun _ => XS.astore X121.here C.hx rfl (hb C.hby d1_25) rfl rfl (l' := #[.val (.int x), .val (.int yy), .val (.ref b104), .val (.int (8 : Int32)), .val (.int (6 : Int32)), .val (.ref u6)]) rfl) ?_
              show Go p e below s n0 _ _ _ (T121.setTop (mkF m 27 #[.val (.int x), .val (.int yy), .val (.ref b104), .val (.int (8 : Int32)), .val (.int (6 : Int32)), .val (.ref u6)] []))
              refine Go.st (fun _ => XS.aload X121.here C.hx rfl (hb C.hby d1_27) rfl rfl) ?_
              show Go p e below s n0 _ _ _ (T121.setTop (mkF m 29 #[.val (.int x), .val (.int yy), .val (.ref b104), .val (.int (8 : Int32)), .val (.int (6 : Int32)), .val (.ref u6)] [(.ref u6)]))
              refine Go.getF C X121 (wd 27 rfl) (F6.keep K104 nin0) d1_29 (fun T124 X124 => ?_)
              show Go p e below s n0 _ _ _ (T124.setTop (mkF m 32 #[.val (.int x), .val (.int yy), .val (.ref b104), .val (.int (8 : Int32)), .val (.int (6 : Int32)), .val (.ref u6)] [(.int (96 : Int32))]))
              refine Go.st (fun _ => XS.iloadN X124.here C.hx rfl (hb C.hby d1_32) rfl) ?_
              show Go p e below s n0 _ _ _ (T124.setTop (mkF m 33 #[.val (.int x), .val (.int yy), .val (.ref b104), .val (.int (8 : Int32)), .val (.int (6 : Int32)), .val (.ref u6)] [(.int yy), (.int (96 : Int32))]))
              refine Go.icmp_ne C X124 (pc' := 39) d1_33 (by decide) (by decide) (fun hc33_125 => ?_) (fun hc33_125 => ?_)
              · show Go p e below s n0 _ _ _ (T124.setTop (mkF m 39 #[.val (.int x), .val (.int yy), .val (.ref b104), .val (.int (8 : Int32)), .val (.int (6 : Int32)), .val (.ref u6)] []))
                refine Go.st (fun _ => XS.iinc X124.here C.hx rfl (hb C.hby d1_39) rfl (l' := #[.val (.int x), .val (.int yy), .val (.ref b104), .val (.int (8 : Int32)), .val (.int (7 : Int32)), .val (.ref u6)]) rfl) ?_
                show Go p e below s n0 _ _ _ (T124.setTop (mkF m 42 #[.val (.int x), .val (.int yy), .val (.ref b104), .val (.int (8 : Int32)), .val (.int (7 : Int32)), .val (.ref u6)] []))
                refine Go.st (fun _ => XS.goto X124.here C.hx rfl (pc0 := 42) (pc' := 15) rfl (hb C.hby d1_42) (by decide) (by decide)) ?_
                show Go p e below s n0 _ _ _ (T124.setTop (mkF m 15 #[.val (.int x), .val (.int yy), .val (.ref b104), .val (.int (8 : Int32)), .val (.int (7 : Int32)), .val (.ref u6)] []))
                refine Go.st (fun _ => XS.iload X124.here C.hx rfl (hb C.hby d1_15) rfl) ?_
                show Go p e below s n0 _ _ _ (T124.setTop (mkF m 17 #[.val (.int x), .val (.int yy), .val (.ref b104), .val (.int (8 : Int32)), .val (.int (7 : Int32)), .val (.ref u6)] [(.int (7 : Int32))]))
                refine Go.st (fun _ => XS.iloadN X124.here C.hx rfl (hb C.hby d1_17) rfl) ?_
                show Go p e below s n0 _ _ _ (T124.setTop (mkF m 18 #[.val (.int x), .val (.int yy), .val (.ref b104), .val (.int (8 : Int32)), .val (.int (7 : Int32)), .val (.ref u6)] [(.int (8 : Int32)), (.int (7 : Int32))]))
                refine Go.icmp_ge C X124 (pc' := 45) d1_18 (by decide) (by decide) (fun hc => absurd hc (by decide)) (fun _ => ?_)
                show Go p e below s n0 _ _ _ (T124.setTop (mkF m 21 #[.val (.int x), .val (.int yy), .val (.ref b104), .val (.int (8 : Int32)), .val (.int (7 : Int32)), .val (.ref u6)] []))
                refine Go.st (fun _ => XS.aloadN X124.here C.hx rfl (hb C.hby d1_21) rfl rfl) ?_
                show Go p e below s n0 _ _ _ (T124.setTop (mkF m 22 #[.val (.int x), .val (.int yy), .val (.ref b104), .val (.int (8 : Int32)), .val (.int (7 : Int32)), .val (.ref u6)] [(.ref b104)]))
                refine Go.st (fun _ => XS.iload X124.here C.hx rfl (hb C.hby d1_22) rfl) ?_
                show Go p e below s n0 _ _ _ (T124.setTop (mkF m 24 #[.val (.int x), .val (.int yy), .val (.ref b104), .val (.int (8 : Int32)), .val (.int (7 : Int32)), .val (.ref u6)] [(.int (7 : Int32)), (.ref b104)]))
                refine Go.aaload C X124 A104 rfl (by decide) rfl d1_24 ?_
                show Go p e below s n0 _ _ _ (T124.setTop (mkF m 25 #[.val (.int x), .val (.int yy), .val (.ref b104), .val (.int (8 : Int32)), .val (.int (7 : Int32)), .val (.ref u6)] [(.ref u7)]))
                refine Go.st (fun _ => XS.astore X124.here C.hx rfl (hb C.hby d1_25) rfl rfl (l' := #[.val (.int x), .val (.int yy), .val (.ref b104), .val (.int (8 : Int32)), .val (.int (7 : Int32)), .val (.ref u7)]) rfl) ?_
                show Go p e below s n0 _ _ _ (T124.setTop (mkF m 27 #[.val (.int x), .val (.int yy), .val (.ref b104), .val (.int (8 : Int32)), .val (.int (7 : Int32)), .val (.ref u7)] []))
                refine Go.st (fun _ => XS.aload X124.here C.hx rfl (hb C.hby d1_27) rfl rfl) ?_
                show Go p e below s n0 _ _ _ (T124.setTop (mkF m 29 #[.val (.int x), .val (.int yy), .val (.ref b104), .val (.int (8 : Int32)), .val (.int (7 : Int32)), .val (.ref u7)] [(.ref u7)]))
                refine Go.getF C X124 (wd 27 rfl) (F7.keep K104 nin0) d1_29 (fun T127 X127 => ?_)
                show Go p e below s n0 _ _ _ (T127.setTop (mkF m 32 #[.val (.int x), .val (.int yy), .val (.ref b104), .val (.int (8 : Int32)), .val (.int (7 : Int32)), .val (.ref u7)] [(.int (-1 : Int32))]))
                refine Go.st (fun _ => XS.iloadN X127.here C.hx rfl (hb C.hby d1_32) rfl) ?_
                show Go p e below s n0 _ _ _ (T127.setTop (mkF m 33 #[.val (.int x), .val (.int yy), .val (.ref b104), .val (.int (8 : Int32)), .val (.int (7 : Int32)), .val (.ref u7)] [(.int yy), (.int (-1 : Int32))]))
                refine Go.icmp_ne C X127 (pc' := 39) d1_33 (by decide) (by decide) (fun hc33_128 => ?_) (fun hc33_128 => ?_)
                · show Go p e below s n0 _ _ _ (T127.setTop (mkF m 39 #[.val (.int x), .val (.int yy), .val (.ref b104), .val (.int (8 : Int32)), .val (.int (7 : Int32)), .val (.ref u7)] []))
                  refine Go.st (fun _ => XS.iinc X127.here C.hx rfl (hb C.hby d1_39) rfl (l' := #[.val (.int x), .val (.int yy), .val (.ref b104), .val (.int (8 : Int32)), .val (.int (8 : Int32)), .val (.ref u7)]) rfl) ?_
                  show Go p e below s n0 _ _ _ (T127.setTop (mkF m 42 #[.val (.int x), .val (.int yy), .val (.ref b104), .val (.int (8 : Int32)), .val (.int (8 : Int32)), .val (.ref u7)] []))
                  refine Go.st (fun _ => XS.goto X127.here C.hx rfl (pc0 := 42) (pc' := 15) rfl (hb C.hby d1_42) (by decide) (by decide)) ?_
                  show Go p e below s n0 _ _ _ (T127.setTop (mkF m 15 #[.val (.int x), .val (.int yy), .val (.ref b104), .val (.int (8 : Int32)), .val (.int (8 : Int32)), .val (.ref u7)] []))
                  refine Go.st (fun _ => XS.iload X127.here C.hx rfl (hb C.hby d1_15) rfl) ?_
                  show Go p e below s n0 _ _ _ (T127.setTop (mkF m 17 #[.val (.int x), .val (.int yy), .val (.ref b104), .val (.int (8 : Int32)), .val (.int (8 : Int32)), .val (.ref u7)] [(.int (8 : Int32))]))
                  refine Go.st (fun _ => XS.iloadN X127.here C.hx rfl (hb C.hby d1_17) rfl) ?_
                  show Go p e below s n0 _ _ _ (T127.setTop (mkF m 18 #[.val (.int x), .val (.int yy), .val (.ref b104), .val (.int (8 : Int32)), .val (.int (8 : Int32)), .val (.ref u7)] [(.int (8 : Int32)), (.int (8 : Int32))]))
                  refine Go.icmp_ge C X127 (pc' := 45) d1_18 (by decide) (by decide) (fun _ => ?_) (fun hc => absurd hc (by decide))
                  show Go p e below s n0 _ _ _ (T127.setTop (mkF m 45 #[.val (.int x), .val (.int yy), .val (.ref b104), .val (.int (8 : Int32)), .val (.int (8 : Int32)), .val (.ref u7)] []))
                  refine Go.getS C X127 (wd 36 rfl) (staKeep S7 K104) d1_45 (fun T130 X130 => ?_)
                  show Go p e below s n0 _ _ _ (T130.setTop (mkF m 48 #[.val (.int x), .val (.int yy), .val (.ref b104), .val (.int (8 : Int32)), .val (.int (8 : Int32)), .val (.ref u7)] [(.ref u7)]))
                  exact Go.retA C X130 rfl rfl d1_48 ⟨by simp [ofF, hc33_107, hc33_110, hc33_113, hc33_116, hc33_119, hc33_122, hc33_125, hc33_128], K104⟩ (by decide) (by decide)
                · show Go p e below s n0 _ _ _ (T127.setTop (mkF m 36 #[.val (.int x), .val (.int yy), .val (.ref b104), .val (.int (8 : Int32)), .val (.int (7 : Int32)), .val (.ref u7)] []))
                  refine Go.st (fun _ => XS.aload X127.here C.hx rfl (hb C.hby d1_36) rfl rfl) ?_
                  show Go p e below s n0 _ _ _ (T127.setTop (mkF m 38 #[.val (.int x), .val (.int yy), .val (.ref b104), .val (.int (8 : Int32)), .val (.int (7 : Int32)), .val (.ref u7)] [(.ref u7)]))
                  exact Go.retA C X127 rfl rfl d1_38 ⟨by simp [ofF, hc33_107, hc33_110, hc33_113, hc33_116, hc33_119, hc33_122, hc33_125, hc33_128], K104⟩ (by decide) (by decide)
              · show Go p e below s n0 _ _ _ (T124.setTop (mkF m 36 #[.val (.int x), .val (.int yy), .val (.ref b104), .val (.int (8 : Int32)), .val (.int (6 : Int32)), .val (.ref u6)] []))
                refine Go.st (fun _ => XS.aload X124.here C.hx rfl (hb C.hby d1_36) rfl rfl) ?_
                show Go p e below s n0 _ _ _ (T124.setTop (mkF m 38 #[.val (.int x), .val (.int yy), .val (.ref b104), .val (.int (8 : Int32)), .val (.int (6 : Int32)), .val (.ref u6)] [(.ref u6)]))
                exact Go.retA C X124 rfl rfl d1_38 ⟨by simp [ofF, hc33_107, hc33_110, hc33_113, hc33_116, hc33_119, hc33_122, hc33_125], K104⟩ (by decide) (by decide)
            · show Go p e below s n0 _ _ _ (T121.setTop (mkF m 36 #[.val (.int x), .val (.int yy), .val (.ref b104), .val (.int (8 : Int32)), .val (.int (5 : Int32)), .val (.ref u5)] []))
              refine Go.st (fun _ => XS.aload X121.here C.hx rfl (hb C.hby d1_36) rfl rfl) ?_
              show Go p e below s n0 _ _ _ (T121.setTop (mkF m 38 #[.val (.int x), .val (.int yy), .val (.ref b104), .val (.int (8 : Int32)), .val (.int (5 : Int32)), .val (.ref u5)] [(.ref u5)]))
              exact Go.retA C X121 rfl rfl d1_38 ⟨by simp [ofF, hc33_107, hc33_110, hc33_113, hc33_116, hc33_119, hc33_122], K104⟩ (by decide) (by decide)
          · show Go p e below s n0 _ _ _ (T118.setTop (mkF m 36 #[.val (.int x), .val (.int yy), .val (.ref b104), .val (.int (8 : Int32)), .val (.int (4 : Int32)), .val (.ref u4)] []))
            refine Go.st (fun _ => XS.aload X118.here C.hx rfl (hb C.hby d1_36) rfl rfl) ?_
            show Go p e below s n0 _ _ _ (T118.setTop (mkF m 38 #[.val (.int x), .val (.int yy), .val (.ref b104), .val (.int (8 : Int32)), .val (.int (4 : Int32)), .val (.ref u4)] [(.ref u4)]))
            exact Go.retA C X118 rfl rfl d1_38 ⟨by simp [ofF, hc33_107, hc33_110, hc33_113, hc33_116, hc33_119], K104⟩ (by decide) (by decide)
        · show Go p e below s n0 _ _ _ (T115.setTop (mkF m 36 #[.val (.int x), .val (.int yy), .val (.ref b104), .val (.int (8 : Int32)), .val (.int (3 : Int32)), .val (.ref u3)] []))
          refine Go.st (fun _ => XS.aload X115.here C.hx rfl (hb C.hby d1_36) rfl rfl) ?_
          show Go p e below s n0 _ _ _ (T115.setTop (mkF m 38 #[.val (.int x), .val (.int yy), .val (.ref b104), .val (.int (8 : Int32)), .val (.int (3 : Int32)), .val (.ref u3)] [(.ref u3)]))
          exact Go.retA C X115 rfl rfl d1_38 ⟨by simp [ofF, hc33_107, hc33_110, hc33_113, hc33_116], K104⟩ (by decide) (by decide)
      · show Go p e below s n0 _ _ _ (T112.setTop (mkF m 36 #[.val (.int x), .val (.int yy), .val (.ref b104), .val (.int (8 : Int32)), .val (.int (2 : Int32)), .val (.ref u2)] []))
        refine Go.st (fun _ => XS.aload X112.here C.hx rfl (hb C.hby d1_36) rfl rfl) ?_
        show Go p e below s n0 _ _ _ (T112.setTop (mkF m 38 #[.val (.int x), .val (.int yy), .val (.ref b104), .val (.int (8 : Int32)), .val (.int (2 : Int32)), .val (.ref u2)] [(.ref u2)]))
        exact Go.retA C X112 rfl rfl d1_38 ⟨by simp [ofF, hc33_107, hc33_110, hc33_113], K104⟩ (by decide) (by decide)
    · show Go p e below s n0 _ _ _ (T109.setTop (mkF m 36 #[.val (.int x), .val (.int yy), .val (.ref b104), .val (.int (8 : Int32)), .val (.int (1 : Int32)), .val (.ref u1)] []))
      refine Go.st (fun _ => XS.aload X109.here C.hx rfl (hb C.hby d1_36) rfl rfl) ?_
      show Go p e below s n0 _ _ _ (T109.setTop (mkF m 38 #[.val (.int x), .val (.int yy), .val (.ref b104), .val (.int (8 : Int32)), .val (.int (1 : Int32)), .val (.ref u1)] [(.ref u1)]))
      exact Go.retA C X109 rfl rfl d1_38 ⟨by simp [ofF, hc33_107, hc33_110], K104⟩ (by decide) (by decide)
  · show Go p e below s n0 _ _ _ (T106.setTop (mkF m 36 #[.val (.int x), .val (.int yy), .val (.ref b104), .val (.int (8 : Int32)), .val (.int (0 : Int32)), .val (.ref u0)] []))
    refine Go.st (fun _ => XS.aload X106.here C.hx rfl (hb C.hby d1_36) rfl rfl) ?_
    show Go p e below s n0 _ _ _ (T106.setTop (mkF m 38 #[.val (.int x), .val (.int yy), .val (.ref b104), .val (.int (8 : Int32)), .val (.int (0 : Int32)), .val (.ref u0)] [(.ref u0)]))
    exact Go.retA C X106 rfl rfl d1_38 ⟨by simp [ofF, hc33_107], K104⟩ (by decide) (by decide)
theorem d3_0 : decode prog_72_method_6_code 0 = .ok (.aload_n 0, 1) := by decide +kernel
theorem d3_1 : decode prog_72_method_6_code 1 = .ok (.getstatic 16, 3) := by decide +kernel
theorem d3_4 : decode prog_72_method_6_code 4 = .ok (.if_acmp .eq 10, 3) := by decide +kernel
theorem d3_7 : decode prog_72_method_6_code 7 = .ok (.aload_n 0, 1) := by decide +kernel
theorem d3_8 : decode prog_72_method_6_code 8 = .ok (.getstatic 19, 3) := by decide +kernel
theorem d3_11 : decode prog_72_method_6_code 11 = .ok (.if_acmp .ne 7, 3) := by decide +kernel
theorem d3_14 : decode prog_72_method_6_code 14 = .ok (.iconst 1, 1) := by decide +kernel
theorem d3_15 : decode prog_72_method_6_code 15 = .ok (.goto 4, 3) := by decide +kernel
theorem d3_18 : decode prog_72_method_6_code 18 = .ok (.iconst 0, 1) := by decide +kernel
theorem d3_19 : decode prog_72_method_6_code 19 = .ok (.ireturn, 1) := by decide +kernel
theorem pf_3 : plainFor (⟨"com/example/strict_attest/strictattest/evidence/arm/SecurityLifecycle", "debug", "()Z"⟩ : MethodName) = true := plainFor_of_name (by first | (simp [plainName, overriddenIn]; done) | decide +kernel)
theorem pd_3 : parseMethodDescriptor "()Z" = some ⟨[], some .boolean⟩ := by decide +kernel
set_option maxRecDepth 65536 in
set_option maxHeartbeats 40000000 in
theorem con_debug (l : Launch) (Z : State) (a0 : Array Value) (hw : ∀ d ∈ tables_1, d.before a0 Z = true) (n0 : Nat) (h0 : Heap) (Z0 : n0 ≤ h0.size) (a u4 u5 : Addr) (S4 : Sta Z h0 "com/example/strict_attest/strictattest/evidence/arm/SecurityLifecycle" "NON_PSA_ROT_DEBUG" "Lcom/example/strict_attest/strictattest/evidence/arm/SecurityLifecycle;" (.ref u4)) (S5 : Sta Z h0 "com/example/strict_attest/strictattest/evidence/arm/SecurityLifecycle" "RECOVERABLE_PSA_ROT_DEBUG" "Lcom/example/strict_attest/strictattest/evidence/arm/SecurityLifecycle;" (.ref u5)) :
    Con l Z (⟨"com/example/strict_attest/strictattest/evidence/arm/SecurityLifecycle", "debug", "()Z"⟩ : MethodName) prog_72_method_6_code 1 (some .boolean) [] ({ frames := 0, cells := 0, slots := 0, locals := 0 } : Room) n0 #[(.ref a)] h0 (fun v h => v = some (.int (dbF a u4 u5)) ∧ h = h0) := by
  refine Con.mk pf_3 hw Z0 ?_
  intro p e s m below meth c T0 C X0
  have ef : entryFrame m #[(.ref a)] 1 = mkF m 0 #[.val (.ref a)] [] := by first | (simp [entryFrame, mkF, argsToLocals, Value.category]; done) | rfl
  rw [ef]
  show Go p e below s n0 _ _ _ (T0.setTop (mkF m 0 #[.val (.ref a)] []))
  refine Go.st (fun _ => XS.aloadN X0.here C.hx rfl (hb C.hby d3_0) rfl rfl) ?_
  show Go p e below s n0 _ _ _ (T0.setTop (mkF m 1 #[.val (.ref a)] [(.ref a)]))
  refine Go.getS C X0 (wd 34 rfl) S4 d3_1 (fun T131 X131 => ?_)
  show Go p e below s n0 _ _ _ (T131.setTop (mkF m 4 #[.val (.ref a)] [(.ref u4), (.ref a)]))
  refine Go.acmp_eq C X131 (pc' := 14) rfl rfl d3_4 (by decide) (by decide) (fun hc4_132 => ?_) (fun hc4_132 => ?_)
  · show Go p e below s n0 _ _ _ (T131.setTop (mkF m 14 #[.val (.ref a)] []))
    refine Go.st (fun _ => XS.iconst X131.here C.hx rfl (hb C.hby d3_14)) ?_
    show Go p e below s n0 _ _ _ (T131.setTop (mkF m 15 #[.val (.ref a)] [(.int (1 : Int32))]))
    refine Go.st (fun _ => XS.goto X131.here C.hx rfl (pc0 := 15) (pc' := 19) rfl (hb C.hby d3_15) (by decide) (by decide)) ?_
    show Go p e below s n0 _ _ _ (T131.setTop (mkF m 19 #[.val (.ref a)] [(.int (1 : Int32))]))
    exact Go.retZ C X131 (by decide) d3_19 ⟨by have q0 := hc4_132; simp at q0;  simp [dbF, q0], rfl⟩ (by decide) (by decide)
  · show Go p e below s n0 _ _ _ (T131.setTop (mkF m 7 #[.val (.ref a)] []))
    refine Go.st (fun _ => XS.aloadN X131.here C.hx rfl (hb C.hby d3_7) rfl rfl) ?_
    show Go p e below s n0 _ _ _ (T131.setTop (mkF m 8 #[.val (.ref a)] [(.ref a)]))
    refine Go.getS C X131 (wd 35 rfl) S5 d3_8 (fun T133 X133 => ?_)
    show Go p e below s n0 _ _ _ (T133.setTop (mkF m 11 #[.val (.ref a)] [(.ref u5), (.ref a)]))
    refine Go.acmp_ne C X133 (pc' := 18) rfl rfl d3_11 (by decide) (by decide) (fun hc11_134 => ?_) (fun hc11_134 => ?_)
    · show Go p e below s n0 _ _ _ (T133.setTop (mkF m 18 #[.val (.ref a)] []))
      refine Go.st (fun _ => XS.iconst X133.here C.hx rfl (hb C.hby d3_18)) ?_
      show Go p e below s n0 _ _ _ (T133.setTop (mkF m 19 #[.val (.ref a)] [(.int (0 : Int32))]))
      exact Go.retZ C X133 (by decide) d3_19 ⟨by have q0 := hc4_132; simp at q0; have q1 := hc11_134; simp at q1;  simp [dbF, q0, q1], rfl⟩ (by decide) (by decide)
    · show Go p e below s n0 _ _ _ (T133.setTop (mkF m 14 #[.val (.ref a)] []))
      refine Go.st (fun _ => XS.iconst X133.here C.hx rfl (hb C.hby d3_14)) ?_
      show Go p e below s n0 _ _ _ (T133.setTop (mkF m 15 #[.val (.ref a)] [(.int (1 : Int32))]))
      refine Go.st (fun _ => XS.goto X133.here C.hx rfl (pc0 := 15) (pc' := 19) rfl (hb C.hby d3_15) (by decide) (by decide)) ?_
      show Go p e below s n0 _ _ _ (T133.setTop (mkF m 19 #[.val (.ref a)] [(.int (1 : Int32))]))
      exact Go.retZ C X133 (by decide) d3_19 ⟨by have q0 := hc4_132; simp at q0; have q1 := hc11_134; simp at q1;  simp [dbF, q0, q1], rfl⟩ (by decide) (by decide)
theorem pf_0 : plainFor x = true := plainFor_of_name (by first | (simp [plainName, overriddenIn]; done) | decide +kernel)
theorem pd_0 : parseMethodDescriptor "(III)Z" = some ⟨[.int, .int, .int], some .boolean⟩ := by decide +kernel
theorem staKeepX : True := trivial
theorem shl8 (b : Int32) (up : Int32) (h : ¬ up < 0 ∧ up < 256) : ius ((up <<< ((8 : Int32) &&& 31)) ||| (b &&& (255 : Int32))) (8 : Int32) = up := by
  obtain ⟨b1, b2⟩ := c_and b 255 (by decide)
  have k0 : (0 : Int32).toInt = 0 := rfl
  have k1 : (256 : Int32).toInt = 256 := rfl
  have k2 : (255 : Int32).toInt = 255 := rfl
  simp only [Int32.lt_iff_toInt_lt, k0, k1] at h
  rw [k2] at b2
  have s1 := c_ishl up 8 8 (by decide)
  have s1' : ((2 ^ 8 : Nat) : Int) = 256 := rfl
  rw [s1'] at s1
  have r1 := Int32.le_toInt (up <<< ((8 : Int32) &&& 31))
  have r2 := Int32.toInt_lt (up <<< ((8 : Int32) &&& 31))
  have e1 : (up <<< ((8 : Int32) &&& 31)).toInt = up.toInt * 256 := by omega
  have o1 := c_or (up <<< ((8 : Int32) &&& 31)) (b &&& (255 : Int32)) 8 (by decide) 256 rfl (by rw [e1]; omega) b1 (by omega)
  have r3 := Int32.le_toInt ((up <<< ((8 : Int32) &&& 31)) ||| (b &&& (255 : Int32)))
  have r4 := Int32.toInt_lt ((up <<< ((8 : Int32) &&& 31)) ||| (b &&& (255 : Int32)))
  have e2 : ((up <<< ((8 : Int32) &&& 31)) ||| (b &&& (255 : Int32))).toInt = up.toInt * 256 + (b &&& (255 : Int32)).toInt := by omega
  have u1 := c_iushr ((up <<< ((8 : Int32) &&& 31)) ||| (b &&& (255 : Int32))) 8 8 (by decide) (by decide)
  rw [e2, s1'] at u1
  apply Int32.toInt_inj.mp
  unfold ius
  rw [u1]
  omega
theorem up1 (a : Int32) : ¬ ((a &&& (7 : Int32)) <<< ((4 : Int32) &&& 31)) < 0 ∧ ((a &&& (7 : Int32)) <<< ((4 : Int32) &&& 31)) < 256 := by
  obtain ⟨b1, b2⟩ := c_and a 7 (by decide)
  have k2 : (7 : Int32).toInt = 7 := rfl
  rw [k2] at b2
  have k0 : (0 : Int32).toInt = 0 := rfl
  have k1 : (256 : Int32).toInt = 256 := rfl
  have s1 := c_ishl (a &&& (7 : Int32)) 4 4 (by decide)
  have s1' : ((2 ^ 4 : Nat) : Int) = 16 := rfl
  rw [s1'] at s1
  have r1 := Int32.le_toInt ((a &&& (7 : Int32)) <<< ((4 : Int32) &&& 31))
  have r2 := Int32.toInt_lt ((a &&& (7 : Int32)) <<< ((4 : Int32) &&& 31))
  simp only [Int32.lt_iff_toInt_lt, k0, k1]
  omega
theorem up2 (a : Int32) : ¬ (a &&& (255 : Int32)) < 0 ∧ (a &&& (255 : Int32)) < 256 := by
  obtain ⟨b1, b2⟩ := c_and a 255 (by decide)
  have k2 : (255 : Int32).toInt = 255 := rfl
  rw [k2] at b2
  have k0 : (0 : Int32).toInt = 0 := rfl
  have k1 : (256 : Int32).toInt = 256 := rfl
  simp only [Int32.lt_iff_toInt_lt, k0, k1]
  omega
theorem dbOf (y : Int32) (u0 u1 u2 u3 u4 u5 u6 u7 : Addr) (n04 : u0 ≠ u4) (n05 : u0 ≠ u5) (n14 : u1 ≠ u4) (n15 : u1 ≠ u5) (n24 : u2 ≠ u4) (n25 : u2 ≠ u5) (n34 : u3 ≠ u4) (n35 : u3 ≠ u5) (n64 : u6 ≠ u4) (n65 : u6 ≠ u5) (n74 : u7 ≠ u4) (n75 : u7 ≠ u5) : dbF (ofF y u0 u1 u2 u3 u4 u5 u6 u7) u4 u5 = if y = 64 then 1 else if y = 80 then 1 else 0 := by
  unfold ofF
  repeat' split
  all_goals first | (subst_vars; simp [dbF, *]; done) | (simp_all [dbF]; done) | (simp_all +decide [dbF]; done)
set_option maxRecDepth 65536 in
set_option maxHeartbeats 40000000 in
theorem con_law (l : Launch) (Z : State) (a0 : Array Value) (hw : ∀ d ∈ tables_1, d.before a0 Z = true) (n0 : Nat) (h0 : Heap) (Z0 : n0 ≤ h0.size) (aa bb se : Int32) (av u0 u1 u2 u3 u4 u5 u6 u7 : Addr) (SV : Sta Z h0 "com/example/strict_attest/strictattest/evidence/arm/SecurityLifecycle" "$VALUES" "[Lcom/example/strict_attest/strictattest/evidence/arm/SecurityLifecycle;" (.ref av)) (EV : Exa Z h0 av "[Lcom/example/strict_attest/strictattest/evidence/arm/SecurityLifecycle;") (AV : AF Z h0 av (.object "com/example/strict_attest/strictattest/evidence/arm/SecurityLifecycle") [.ref u0, .ref u1, .ref u2, .ref u3, .ref u4, .ref u5, .ref u6, .ref u7]) (F0 : Fld Z h0 u0 "com/example/strict_attest/strictattest/evidence/arm/SecurityLifecycle" "upperByte" "I" (.int (0 : Int32))) (F1 : Fld Z h0 u1 "com/example/strict_attest/strictattest/evidence/arm/SecurityLifecycle" "upperByte" "I" (.int (16 : Int32))) (F2 : Fld Z h0 u2 "com/example/strict_attest/strictattest/evidence/arm/SecurityLifecycle" "upperByte" "I" (.int (32 : Int32))) (F3 : Fld Z h0 u3 "com/example/strict_attest/strictattest/evidence/arm/SecurityLifecycle" "upperByte" "I" (.int (48 : Int32))) (F4 : Fld Z h0 u4 "com/example/strict_attest/strictattest/evidence/arm/SecurityLifecycle" "upperByte" "I" (.int (64 : Int32))) (F5 : Fld Z h0 u5 "com/example/strict_attest/strictattest/evidence/arm/SecurityLifecycle" "upperByte" "I" (.int (80 : Int32))) (F6 : Fld Z h0 u6 "com/example/strict_attest/strictattest/evidence/arm/SecurityLifecycle" "upperByte" "I" (.int (96 : Int32))) (F7 : Fld Z h0 u7 "com/example/strict_attest/strictattest/evidence/arm/SecurityLifecycle" "upperByte" "I" (.int (-1 : Int32))) (S7 : Sta Z h0 "com/example/strict_attest/strictattest/evidence/arm/SecurityLifecycle" "UNDEFINED" "Lcom/example/strict_attest/strictattest/evidence/arm/SecurityLifecycle;" (.ref u7)) (S4 : Sta Z h0 "com/example/strict_attest/strictattest/evidence/arm/SecurityLifecycle" "NON_PSA_ROT_DEBUG" "Lcom/example/strict_attest/strictattest/evidence/arm/SecurityLifecycle;" (.ref u4)) (S5 : Sta Z h0 "com/example/strict_attest/strictattest/evidence/arm/SecurityLifecycle" "RECOVERABLE_PSA_ROT_DEBUG" "Lcom/example/strict_attest/strictattest/evidence/arm/SecurityLifecycle;" (.ref u5)) (E0 : Exa Z h0 u0 "com/example/strict_attest/strictattest/evidence/arm/SecurityLifecycle") (E1 : Exa Z h0 u1 "com/example/strict_attest/strictattest/evidence/arm/SecurityLifecycle") (E2 : Exa Z h0 u2 "com/example/strict_attest/strictattest/evidence/arm/SecurityLifecycle") (E3 : Exa Z h0 u3 "com/example/strict_attest/strictattest/evidence/arm/SecurityLifecycle") (E4 : Exa Z h0 u4 "com/example/strict_attest/strictattest/evidence/arm/SecurityLifecycle") (E5 : Exa Z h0 u5 "com/example/strict_attest/strictattest/evidence/arm/SecurityLifecycle") (E6 : Exa Z h0 u6 "com/example/strict_attest/strictattest/evidence/arm/SecurityLifecycle") (E7 : Exa Z h0 u7 "com/example/strict_attest/strictattest/evidence/arm/SecurityLifecycle") (n04 : u0 ≠ u4) (n05 : u0 ≠ u5) (n14 : u1 ≠ u4) (n15 : u1 ≠ u5) (n24 : u2 ≠ u4) (n25 : u2 ≠ u5) (n34 : u3 ≠ u4) (n35 : u3 ≠ u5) (n64 : u6 ≠ u4) (n65 : u6 ≠ u5) (n74 : u7 ≠ u4) (n75 : u7 ≠ u5) :
    Con l Z x code maxLocals ret tables_1 room_1 n0 #[(.int aa), (.int bb), (.int se)] h0 (fun v h => v = some (.int 1)) := by
  refine Con.mk pf_0 hw Z0 ?_
  intro p e s m below meth c T0 C X0
  have ef : entryFrame m #[(.int aa), (.int bb), (.int se)] maxLocals = mkF m 0 #[.val (.int aa), .val (.int bb), .val (.int se), .unset, .unset, .unset] [] := by first | (simp [entryFrame, mkF, argsToLocals, Value.category, maxLocals]; done) | rfl
  rw [ef]
  show Go p e below s n0 _ _ _ (T0.setTop (mkF m 0 #[.val (.int aa), .val (.int bb), .val (.int se), .unset, .unset, .unset] []))
  refine Go.st (fun _ => XS.iloadN X0.here C.hx rfl (hb C.hby at_0) rfl) ?_
  show Go p e below s n0 _ _ _ (T0.setTop (mkF m 1 #[.val (.int aa), .val (.int bb), .val (.int se), .unset, .unset, .unset] [(.int se)]))
  refine Go.st (fun _ => XS.iconst X0.here C.hx rfl (hb C.hby at_1)) ?_
  show Go p e below s n0 _ _ _ (T0.setTop (mkF m 2 #[.val (.int aa), .val (.int bb), .val (.int se), .unset, .unset, .unset] [(.int (1 : Int32)), (.int se)]))
  refine Go.st (fun _ => XS.iand X0.here C.hx rfl (hb C.hby at_2) rfl) ?_
  show Go p e below s n0 _ _ _ (T0.setTop (mkF m 3 #[.val (.int aa), .val (.int bb), .val (.int se), .unset, .unset, .unset] [(.int (se &&& (1 : Int32)))]))
  have J136 : ∀ (TJ136 : State) (up : Int32), St p l e room_1 s m #[(.int aa), (.int bb), (.int se)] below meth c n0 TJ136 h0 0 0 → ¬ up < (0 : Int32) ∧ up < (256 : Int32) → Go p e below s n0 (room_1).cells (room_1).slots (fun v h => v = some (.int 1)) (TJ136.setTop (mkF m 20 #[.val (.int aa), .val (.int bb), .val (.int se), .unset, .unset, .unset] [(.int up)])) := by
    intro TJ136 up XJ136 hj_up
    show Go p e below s n0 _ _ _ (TJ136.setTop (mkF m 20 #[.val (.int aa), .val (.int bb), .val (.int se), .unset, .unset, .unset] [(.int up)]))
    refine Go.st (fun _ => XS.istoreN XJ136.here C.hx rfl (hb C.hby at_20) rfl (l' := #[.val (.int aa), .val (.int bb), .val (.int se), .val (.int up), .unset, .unset]) rfl) ?_
    show Go p e below s n0 _ _ _ (TJ136.setTop (mkF m 21 #[.val (.int aa), .val (.int bb), .val (.int se), .val (.int up), .unset, .unset] []))
    refine Go.st (fun _ => XS.iloadN XJ136.here C.hx rfl (hb C.hby at_21) rfl) ?_
    show Go p e below s n0 _ _ _ (TJ136.setTop (mkF m 22 #[.val (.int aa), .val (.int bb), .val (.int se), .val (.int up), .unset, .unset] [(.int up)]))
    refine Go.st (fun _ => XS.bipush XJ136.here C.hx rfl (hb C.hby at_22)) ?_
    show Go p e below s n0 _ _ _ (TJ136.setTop (mkF m 24 #[.val (.int aa), .val (.int bb), .val (.int se), .val (.int up), .unset, .unset] [(.int (8 : Int32)), (.int up)]))
    refine Go.st (fun _ => XS.ishl XJ136.here C.hx rfl (hb C.hby at_24) rfl) ?_
    show Go p e below s n0 _ _ _ (TJ136.setTop (mkF m 25 #[.val (.int aa), .val (.int bb), .val (.int se), .val (.int up), .unset, .unset] [(.int (up <<< ((8 : Int32) &&& 31)))]))
    refine Go.st (fun _ => XS.iloadN XJ136.here C.hx rfl (hb C.hby at_25) rfl) ?_
    show Go p e below s n0 _ _ _ (TJ136.setTop (mkF m 26 #[.val (.int aa), .val (.int bb), .val (.int se), .val (.int up), .unset, .unset] [(.int bb), (.int (up <<< ((8 : Int32) &&& 31)))]))
    refine Go.st (fun _ => XS.sipush XJ136.here C.hx rfl (hb C.hby at_26)) ?_
    show Go p e below s n0 _ _ _ (TJ136.setTop (mkF m 29 #[.val (.int aa), .val (.int bb), .val (.int se), .val (.int up), .unset, .unset] [(.int (255 : Int32)), (.int bb), (.int (up <<< ((8 : Int32) &&& 31)))]))
    refine Go.st (fun _ => XS.iand XJ136.here C.hx rfl (hb C.hby at_29) rfl) ?_
    show Go p e below s n0 _ _ _ (TJ136.setTop (mkF m 30 #[.val (.int aa), .val (.int bb), .val (.int se), .val (.int up), .unset, .unset] [(.int (bb &&& (255 : Int32))), (.int (up <<< ((8 : Int32) &&& 31)))]))
    refine Go.st (fun _ => XS.ior XJ136.here C.hx rfl (hb C.hby at_30) rfl) ?_
    show Go p e below s n0 _ _ _ (TJ136.setTop (mkF m 31 #[.val (.int aa), .val (.int bb), .val (.int se), .val (.int up), .unset, .unset] [(.int ((up <<< ((8 : Int32) &&& 31)) ||| (bb &&& (255 : Int32))))]))
    refine Go.st (fun _ => XS.istore XJ136.here C.hx rfl (hb C.hby at_31) rfl (l' := #[.val (.int aa), .val (.int bb), .val (.int se), .val (.int up), .val (.int ((up <<< ((8 : Int32) &&& 31)) ||| (bb &&& (255 : Int32)))), .unset]) rfl) ?_
    show Go p e below s n0 _ _ _ (TJ136.setTop (mkF m 33 #[.val (.int aa), .val (.int bb), .val (.int se), .val (.int up), .val (.int ((up <<< ((8 : Int32) &&& 31)) ||| (bb &&& (255 : Int32)))), .unset] []))
    have J137 : ∀ (TJ137 : State) (ex : Int32), St p l e room_1 s m #[(.int aa), (.int bb), (.int se)] below meth c n0 TJ137 h0 0 0 → ex = (if up = 64 then (1 : Int32) else if up = 80 then 1 else 0) → Go p e below s n0 (room_1).cells (room_1).slots (fun v h => v = some (.int 1)) (TJ137.setTop (mkF m 50 #[.val (.int aa), .val (.int bb), .val (.int se), .val (.int up), .val (.int ((up <<< ((8 : Int32) &&& 31)) ||| (bb &&& (255 : Int32)))), .unset] [(.int ex)])) := by
      intro TJ137 ex XJ137 hj_ex
      show Go p e below s n0 _ _ _ (TJ137.setTop (mkF m 50 #[.val (.int aa), .val (.int bb), .val (.int se), .val (.int up), .val (.int ((up <<< ((8 : Int32) &&& 31)) ||| (bb &&& (255 : Int32)))), .unset] [(.int ex)]))
      refine Go.st (fun _ => XS.istore XJ137.here C.hx rfl (hb C.hby at_50) rfl (l' := #[.val (.int aa), .val (.int bb), .val (.int se), .val (.int up), .val (.int ((up <<< ((8 : Int32) &&& 31)) ||| (bb &&& (255 : Int32)))), .val (.int ex)]) rfl) ?_
      show Go p e below s n0 _ _ _ (TJ137.setTop (mkF m 52 #[.val (.int aa), .val (.int bb), .val (.int se), .val (.int up), .val (.int ((up <<< ((8 : Int32) &&& 31)) ||| (bb &&& (255 : Int32)))), .val (.int ex)] []))
      refine Go.st (fun _ => XS.iload XJ137.here C.hx rfl (hb C.hby at_52) rfl) ?_
      show Go p e below s n0 _ _ _ (TJ137.setTop (mkF m 54 #[.val (.int aa), .val (.int bb), .val (.int se), .val (.int up), .val (.int ((up <<< ((8 : Int32) &&& 31)) ||| (bb &&& (255 : Int32)))), .val (.int ex)] [(.int ((up <<< ((8 : Int32) &&& 31)) ||| (bb &&& (255 : Int32))))]))
      refine Go.callS C XJ137 (W := 0) (argsL := [(.int ((up <<< ((8 : Int32) &&& 31)) ||| (bb &&& (255 : Int32))))]) (rest := []) (wd 0 rfl) (wd 1 rfl) (wd 2 rfl) (wd 3 rfl) (by decide) (con_of l Z a0 hw n0 h0 XJ137.size ((up <<< ((8 : Int32) &&& 31)) ||| (bb &&& (255 : Int32))) av u0 u1 u2 u3 u4 u5 u6 u7 SV EV AV F0 F1 F2 F3 F4 F5 F6 F7 S7) (by decide) (by decide) rfl (lenOf pd_1 rfl) (Nat.le_of_ble_eq_true rfl) rfl at_54 (by decide) (by decide) (fun T138 h138 v138 X138 hQ138 => ?_)
      obtain ⟨rfl, K138⟩ := hQ138
      rw [shl8 bb up hj_up]
      have EE : Exa Z h138 (ofF up u0 u1 u2 u3 u4 u5 u6 u7) "com/example/strict_attest/strictattest/evidence/arm/SecurityLifecycle" := by
        unfold ofF
        repeat' split
        all_goals first | exact E0.keep K138 | exact E1.keep K138 | exact E2.keep K138 | exact E3.keep K138 | exact E4.keep K138 | exact E5.keep K138 | exact E6.keep K138 | exact E7.keep K138
      have SS4 := staKeep S4 K138
      have SS5 := staKeep S5 K138
      show Go p e below s n0 _ _ _ (T138.setTop (mkF m 57 #[.val (.int aa), .val (.int bb), .val (.int se), .val (.int up), .val (.int ((up <<< ((8 : Int32) &&& 31)) ||| (bb &&& (255 : Int32)))), .val (.int ex)] [(.ref (ofF up u0 u1 u2 u3 u4 u5 u6 u7))]))
      refine Go.callV C X138 (W := 0) (argsL := []) (rest := []) (a := (ofF up u0 u1 u2 u3 u4 u5 u6 u7)) EE (wd 29 rfl) (wd 30 rfl) (wd 32 rfl) (wd 31 rfl) (wd 2 rfl) (wd 33 rfl) (by decide) rfl (con_debug l Z a0 hw n0 h138 X138.size (ofF up u0 u1 u2 u3 u4 u5 u6 u7) u4 u5 SS4 SS5) (by decide) (by decide) rfl (lenOf pd_3 rfl) (Nat.le_of_ble_eq_true rfl) rfl at_57 (by decide) (by decide) (fun T139 h139 v139 X139 hQ139 => ?_)
      obtain ⟨rfl, hh139⟩ := hQ139
      rw [hh139] at X139
      show Go p e below s n0 _ _ _ (T139.setTop (mkF m 60 #[.val (.int aa), .val (.int bb), .val (.int se), .val (.int up), .val (.int ((up <<< ((8 : Int32) &&& 31)) ||| (bb &&& (255 : Int32)))), .val (.int ex)] [(.int (dbF (ofF up u0 u1 u2 u3 u4 u5 u6 u7) u4 u5))]))
      refine Go.st (fun _ => XS.iload X139.here C.hx rfl (hb C.hby at_60) rfl) ?_
      show Go p e below s n0 _ _ _ (T139.setTop (mkF m 62 #[.val (.int aa), .val (.int bb), .val (.int se), .val (.int up), .val (.int ((up <<< ((8 : Int32) &&& 31)) ||| (bb &&& (255 : Int32)))), .val (.int ex)] [(.int ex), (.int (dbF (ofF up u0 u1 u2 u3 u4 u5 u6 u7) u4 u5))]))
      refine Go.icmp_ne C X139 (pc' := 69) at_62 (by decide) (by decide) (fun hc => by first | exact absurd hc ((dbOf up u0 u1 u2 u3 u4 u5 u6 u7 n04 n05 n14 n15 n24 n25 n34 n35 n64 n65 n74 n75).trans hj_ex.symm) | exact absurd ((dbOf up u0 u1 u2 u3 u4 u5 u6 u7 n04 n05 n14 n15 n24 n25 n34 n35 n64 n65 n74 n75).trans hj_ex.symm) hc) (fun _ => ?_)
      show Go p e below s n0 _ _ _ (T139.setTop (mkF m 65 #[.val (.int aa), .val (.int bb), .val (.int se), .val (.int up), .val (.int ((up <<< ((8 : Int32) &&& 31)) ||| (bb &&& (255 : Int32)))), .val (.int ex)] []))
      refine Go.st (fun _ => XS.iconst X139.here C.hx rfl (hb C.hby at_65)) ?_
      show Go p e below s n0 _ _ _ (T139.setTop (mkF m 66 #[.val (.int aa), .val (.int bb), .val (.int se), .val (.int up), .val (.int ((up <<< ((8 : Int32) &&& 31)) ||| (bb &&& (255 : Int32)))), .val (.int ex)] [(.int (1 : Int32))]))
      refine Go.st (fun _ => XS.goto X139.here C.hx rfl (pc0 := 66) (pc' := 70) rfl (hb C.hby at_66) (by decide) (by decide)) ?_
      show Go p e below s n0 _ _ _ (T139.setTop (mkF m 70 #[.val (.int aa), .val (.int bb), .val (.int se), .val (.int up), .val (.int ((up <<< ((8 : Int32) &&& 31)) ||| (bb &&& (255 : Int32)))), .val (.int ex)] [(.int (1 : Int32))]))
      exact Go.retZ C X139 (by decide) at_70 rfl (by decide) (by decide)
    show Go p e below s n0 _ _ _ (TJ136.setTop (mkF m 33 #[.val (.int aa), .val (.int bb), .val (.int se), .val (.int up), .val (.int ((up <<< ((8 : Int32) &&& 31)) ||| (bb &&& (255 : Int32)))), .unset] []))
    refine Go.st (fun _ => XS.iloadN XJ136.here C.hx rfl (hb C.hby at_33) rfl) ?_
    show Go p e below s n0 _ _ _ (TJ136.setTop (mkF m 34 #[.val (.int aa), .val (.int bb), .val (.int se), .val (.int up), .val (.int ((up <<< ((8 : Int32) &&& 31)) ||| (bb &&& (255 : Int32)))), .unset] [(.int up)]))
    refine Go.st (fun _ => XS.bipush XJ136.here C.hx rfl (hb C.hby at_34)) ?_
    show Go p e below s n0 _ _ _ (TJ136.setTop (mkF m 36 #[.val (.int aa), .val (.int bb), .val (.int se), .val (.int up), .val (.int ((up <<< ((8 : Int32) &&& 31)) ||| (bb &&& (255 : Int32)))), .unset] [(.int (64 : Int32)), (.int up)]))
    refine Go.icmp_eq C XJ136 (pc' := 45) at_36 (by decide) (by decide) (fun hc36_141 => ?_) (fun hc36_141 => ?_)
    · show Go p e below s n0 _ _ _ (TJ136.setTop (mkF m 45 #[.val (.int aa), .val (.int bb), .val (.int se), .val (.int up), .val (.int ((up <<< ((8 : Int32) &&& 31)) ||| (bb &&& (255 : Int32)))), .unset] []))
      refine Go.st (fun _ => XS.iconst XJ136.here C.hx rfl (hb C.hby at_45)) ?_
      show Go p e below s n0 _ _ _ (TJ136.setTop (mkF m 46 #[.val (.int aa), .val (.int bb), .val (.int se), .val (.int up), .val (.int ((up <<< ((8 : Int32) &&& 31)) ||| (bb &&& (255 : Int32)))), .unset] [(.int (1 : Int32))]))
      refine Go.st (fun _ => XS.goto XJ136.here C.hx rfl (pc0 := 46) (pc' := 50) rfl (hb C.hby at_46) (by decide) (by decide)) ?_
      show Go p e below s n0 _ _ _ (TJ136.setTop (mkF m 50 #[.val (.int aa), .val (.int bb), .val (.int se), .val (.int up), .val (.int ((up <<< ((8 : Int32) &&& 31)) ||| (bb &&& (255 : Int32)))), .unset] [(.int (1 : Int32))]))
      exact J137 TJ136 (1 : Int32) XJ136 (by simp [hc36_141])
    · show Go p e below s n0 _ _ _ (TJ136.setTop (mkF m 39 #[.val (.int aa), .val (.int bb), .val (.int se), .val (.int up), .val (.int ((up <<< ((8 : Int32) &&& 31)) ||| (bb &&& (255 : Int32)))), .unset] []))
      refine Go.st (fun _ => XS.iloadN XJ136.here C.hx rfl (hb C.hby at_39) rfl) ?_
      show Go p e below s n0 _ _ _ (TJ136.setTop (mkF m 40 #[.val (.int aa), .val (.int bb), .val (.int se), .val (.int up), .val (.int ((up <<< ((8 : Int32) &&& 31)) ||| (bb &&& (255 : Int32)))), .unset] [(.int up)]))
      refine Go.st (fun _ => XS.bipush XJ136.here C.hx rfl (hb C.hby at_40)) ?_
      show Go p e below s n0 _ _ _ (TJ136.setTop (mkF m 42 #[.val (.int aa), .val (.int bb), .val (.int se), .val (.int up), .val (.int ((up <<< ((8 : Int32) &&& 31)) ||| (bb &&& (255 : Int32)))), .unset] [(.int (80 : Int32)), (.int up)]))
      refine Go.icmp_ne C XJ136 (pc' := 49) at_42 (by decide) (by decide) (fun hc42_142 => ?_) (fun hc42_142 => ?_)
      · show Go p e below s n0 _ _ _ (TJ136.setTop (mkF m 49 #[.val (.int aa), .val (.int bb), .val (.int se), .val (.int up), .val (.int ((up <<< ((8 : Int32) &&& 31)) ||| (bb &&& (255 : Int32)))), .unset] []))
        refine Go.st (fun _ => XS.iconst XJ136.here C.hx rfl (hb C.hby at_49)) ?_
        show Go p e below s n0 _ _ _ (TJ136.setTop (mkF m 50 #[.val (.int aa), .val (.int bb), .val (.int se), .val (.int up), .val (.int ((up <<< ((8 : Int32) &&& 31)) ||| (bb &&& (255 : Int32)))), .unset] [(.int (0 : Int32))]))
        exact J137 TJ136 (0 : Int32) XJ136 (by simp [hc36_141, hc42_142])
      · show Go p e below s n0 _ _ _ (TJ136.setTop (mkF m 45 #[.val (.int aa), .val (.int bb), .val (.int se), .val (.int up), .val (.int ((up <<< ((8 : Int32) &&& 31)) ||| (bb &&& (255 : Int32)))), .unset] []))
        refine Go.st (fun _ => XS.iconst XJ136.here C.hx rfl (hb C.hby at_45)) ?_
        show Go p e below s n0 _ _ _ (TJ136.setTop (mkF m 46 #[.val (.int aa), .val (.int bb), .val (.int se), .val (.int up), .val (.int ((up <<< ((8 : Int32) &&& 31)) ||| (bb &&& (255 : Int32)))), .unset] [(.int (1 : Int32))]))
        refine Go.st (fun _ => XS.goto XJ136.here C.hx rfl (pc0 := 46) (pc' := 50) rfl (hb C.hby at_46) (by decide) (by decide)) ?_
        show Go p e below s n0 _ _ _ (TJ136.setTop (mkF m 50 #[.val (.int aa), .val (.int bb), .val (.int se), .val (.int up), .val (.int ((up <<< ((8 : Int32) &&& 31)) ||| (bb &&& (255 : Int32)))), .unset] [(.int (1 : Int32))]))
        exact J137 TJ136 (1 : Int32) XJ136 (by simp [hc36_141, hc42_142])
  refine Go.if_eq C X0 (pc' := 15) at_3 (by decide) (by decide) (fun hc3_135 => ?_) (fun hc3_135 => ?_)
  · show Go p e below s n0 _ _ _ (T0.setTop (mkF m 15 #[.val (.int aa), .val (.int bb), .val (.int se), .unset, .unset, .unset] []))
    refine Go.st (fun _ => XS.iloadN X0.here C.hx rfl (hb C.hby at_15) rfl) ?_
    show Go p e below s n0 _ _ _ (T0.setTop (mkF m 16 #[.val (.int aa), .val (.int bb), .val (.int se), .unset, .unset, .unset] [(.int aa)]))
    refine Go.st (fun _ => XS.sipush X0.here C.hx rfl (hb C.hby at_16)) ?_
    show Go p e below s n0 _ _ _ (T0.setTop (mkF m 19 #[.val (.int aa), .val (.int bb), .val (.int se), .unset, .unset, .unset] [(.int (255 : Int32)), (.int aa)]))
    refine Go.st (fun _ => XS.iand X0.here C.hx rfl (hb C.hby at_19) rfl) ?_
    show Go p e below s n0 _ _ _ (T0.setTop (mkF m 20 #[.val (.int aa), .val (.int bb), .val (.int se), .unset, .unset, .unset] [(.int (aa &&& (255 : Int32)))]))
    exact J136 T0 (aa &&& (255 : Int32)) X0 (up2 aa)
  · show Go p e below s n0 _ _ _ (T0.setTop (mkF m 6 #[.val (.int aa), .val (.int bb), .val (.int se), .unset, .unset, .unset] []))
    refine Go.st (fun _ => XS.iloadN X0.here C.hx rfl (hb C.hby at_6) rfl) ?_
    show Go p e below s n0 _ _ _ (T0.setTop (mkF m 7 #[.val (.int aa), .val (.int bb), .val (.int se), .unset, .unset, .unset] [(.int aa)]))
    refine Go.st (fun _ => XS.bipush X0.here C.hx rfl (hb C.hby at_7)) ?_
    show Go p e below s n0 _ _ _ (T0.setTop (mkF m 9 #[.val (.int aa), .val (.int bb), .val (.int se), .unset, .unset, .unset] [(.int (7 : Int32)), (.int aa)]))
    refine Go.st (fun _ => XS.iand X0.here C.hx rfl (hb C.hby at_9) rfl) ?_
    show Go p e below s n0 _ _ _ (T0.setTop (mkF m 10 #[.val (.int aa), .val (.int bb), .val (.int se), .unset, .unset, .unset] [(.int (aa &&& (7 : Int32)))]))
    refine Go.st (fun _ => XS.iconst X0.here C.hx rfl (hb C.hby at_10)) ?_
    show Go p e below s n0 _ _ _ (T0.setTop (mkF m 11 #[.val (.int aa), .val (.int bb), .val (.int se), .unset, .unset, .unset] [(.int (4 : Int32)), (.int (aa &&& (7 : Int32)))]))
    refine Go.st (fun _ => XS.ishl X0.here C.hx rfl (hb C.hby at_11) rfl) ?_
    show Go p e below s n0 _ _ _ (T0.setTop (mkF m 12 #[.val (.int aa), .val (.int bb), .val (.int se), .unset, .unset, .unset] [(.int ((aa &&& (7 : Int32)) <<< ((4 : Int32) &&& 31)))]))
    refine Go.st (fun _ => XS.goto X0.here C.hx rfl (pc0 := 12) (pc' := 20) rfl (hb C.hby at_12) (by decide) (by decide)) ?_
    show Go p e below s n0 _ _ _ (T0.setTop (mkF m 20 #[.val (.int aa), .val (.int bb), .val (.int se), .unset, .unset, .unset] [(.int ((aa &&& (7 : Int32)) <<< ((4 : Int32) &&& 31)))]))
    exact J136 T0 ((aa &&& (7 : Int32)) <<< ((4 : Int32) &&& 31)) X0 (up1 aa)
set_option maxRecDepth 65536 in
set_option maxHeartbeats 40000000 in
theorem comes_1 {Post : Tables → Env → Array Value → State → Outcome → State → Prop} (hpost : ∀ tb e args s v u, (limb_1_1.after args s (.returned v) u = true ∧ limb_1_2.after args s (.returned v) u = true ∧ True) → FrameEnd s (.returned v) u (Jvm.fieldLocs frame_1_writes args s ++ Jvm.arrayLocs frame_1_arrays args s ++ Jvm.staticLocs frame_1_statics s) 16 128 → Post tb e args s (.returned v) u) :
    ArmFor flags0 classFile x code maxLocals ret World_1 tables_1 room_1 Calls_1 rest_1 Pre_1 Post := by
  intro l hfl _ _ p e ha hc hk s m args below hf hA hF happ hP
  obtain ⟨hcalls, hrest, hpre⟩ := hP
  obtain ⟨-, -, -, hnamed, -, -, -, hat⟩ := (Spec.applies_iff hf).mp happ
  obtain ⟨hg, hn⟩ := and_e (Cond.before_iff.mp (show (Jvm.Cond.and given_1 narrow_1).before args s = true from hpre))
  obtain ⟨h1, hr0⟩ := and_e hg
  obtain ⟨ha0, hr1⟩ := and_e hr0
  obtain ⟨ha1, hr2⟩ := and_e hr1
  have ha2 := hr2
  obtain ⟨w0, w1, w2, rfl⟩ : ∃ w0 w1 w2 : Value, args = #[w0, w1, w2] := by
    have hs : args.size = 3 := by simpa [Cond.value, given_1] using h1
    obtain ⟨L⟩ := args
    match L, hs with
    | [w0, w1, w2], _ => exact ⟨w0, w1, w2, rfl⟩
  have hw := fun d (hd : d ∈ tables_1) => atoms_spec (ws := Jvm.Cond.code x code maxLocals ret :: tables_1) hat d (List.mem_cons_of_mem _ hd)
  obtain ⟨i0, e0⟩ := is_v ha0
  obtain rfl : w0 = (.int i0) := Option.some.inj e0
  obtain ⟨i1, e1⟩ := is_v ha1
  obtain rfl : w1 = (.int i1) := Option.some.inj e1
  obtain ⟨i2, e2⟩ := is_v ha2
  obtain rfl : w2 = (.int i2) := Option.some.inj e2
  have hfit : Fit s := fun {y c} hc i hi => by
    obtain ⟨ha, rfl⟩ := Array.getElem?_eq_some_iff.mp hc
    have q := List.all_eq_true.mp ((Array.all_eq_true_iff_forall_mem.mp hF) _ (Array.getElem_mem ha)) i (List.mem_range.mpr hi)
    simpa [Array.getElem?_eq_getElem hi] using q
  obtain ⟨qA, r1⟩ := and_e hn
  obtain ⟨qE, r2⟩ := and_e r1
  obtain ⟨qL, r3⟩ := and_e r2
  obtain ⟨av, ev⟩ := exa_v qE
  obtain ⟨cv, Av⟩ := Arr.start ev qA
  have hl := lenOf' qL ev Av
  have SV : Sta s s.heap "com/example/strict_attest/strictattest/evidence/arm/SecurityLifecycle" "$VALUES" "[Lcom/example/strict_attest/strictattest/evidence/arm/SecurityLifecycle;" (.ref av) := Sta.start ev (Or.inl (hw _ (wd 24 rfl)))
  obtain ⟨qe0, r4⟩ := and_e r3
  obtain ⟨ql0, r5⟩ := and_e r4
  obtain ⟨u0, eu0⟩ := exa_v qe0
  have S0 : Sta s s.heap "com/example/strict_attest/strictattest/evidence/arm/SecurityLifecycle" "UNKNOWN" "Lcom/example/strict_attest/strictattest/evidence/arm/SecurityLifecycle;" (.ref u0) := Sta.start eu0 (Or.inr ⟨hw _ (wd 2 rfl), hw _ (wd 16 rfl)⟩)
  have el0 := elemRef ql0 ev eu0 Av.1
  obtain ⟨qe1, r6⟩ := and_e r5
  obtain ⟨ql1, r7⟩ := and_e r6
  obtain ⟨u1, eu1⟩ := exa_v qe1
  have S1 : Sta s s.heap "com/example/strict_attest/strictattest/evidence/arm/SecurityLifecycle" "ASSEMBLY_AND_TEST" "Lcom/example/strict_attest/strictattest/evidence/arm/SecurityLifecycle;" (.ref u1) := Sta.start eu1 (Or.inr ⟨hw _ (wd 2 rfl), hw _ (wd 17 rfl)⟩)
  have el1 := elemRef ql1 ev eu1 Av.1
  obtain ⟨qe2, r8⟩ := and_e r7
  obtain ⟨ql2, r9⟩ := and_e r8
  obtain ⟨u2, eu2⟩ := exa_v qe2
  have S2 : Sta s s.heap "com/example/strict_attest/strictattest/evidence/arm/SecurityLifecycle" "PSA_ROT_PROVISIONING" "Lcom/example/strict_attest/strictattest/evidence/arm/SecurityLifecycle;" (.ref u2) := Sta.start eu2 (Or.inr ⟨hw _ (wd 2 rfl), hw _ (wd 18 rfl)⟩)
  have el2 := elemRef ql2 ev eu2 Av.1
  obtain ⟨qe3, r10⟩ := and_e r9
  obtain ⟨ql3, r11⟩ := and_e r10
  obtain ⟨u3, eu3⟩ := exa_v qe3
  have S3 : Sta s s.heap "com/example/strict_attest/strictattest/evidence/arm/SecurityLifecycle" "SECURED" "Lcom/example/strict_attest/strictattest/evidence/arm/SecurityLifecycle;" (.ref u3) := Sta.start eu3 (Or.inr ⟨hw _ (wd 2 rfl), hw _ (wd 19 rfl)⟩)
  have el3 := elemRef ql3 ev eu3 Av.1
  obtain ⟨qe4, r12⟩ := and_e r11
  obtain ⟨ql4, r13⟩ := and_e r12
  obtain ⟨u4, eu4⟩ := exa_v qe4
  have S4 : Sta s s.heap "com/example/strict_attest/strictattest/evidence/arm/SecurityLifecycle" "NON_PSA_ROT_DEBUG" "Lcom/example/strict_attest/strictattest/evidence/arm/SecurityLifecycle;" (.ref u4) := Sta.start eu4 (Or.inr ⟨hw _ (wd 2 rfl), hw _ (wd 20 rfl)⟩)
  have el4 := elemRef ql4 ev eu4 Av.1
  obtain ⟨qe5, r14⟩ := and_e r13
  obtain ⟨ql5, r15⟩ := and_e r14
  obtain ⟨u5, eu5⟩ := exa_v qe5
  have S5 : Sta s s.heap "com/example/strict_attest/strictattest/evidence/arm/SecurityLifecycle" "RECOVERABLE_PSA_ROT_DEBUG" "Lcom/example/strict_attest/strictattest/evidence/arm/SecurityLifecycle;" (.ref u5) := Sta.start eu5 (Or.inr ⟨hw _ (wd 2 rfl), hw _ (wd 21 rfl)⟩)
  have el5 := elemRef ql5 ev eu5 Av.1
  obtain ⟨qe6, r16⟩ := and_e r15
  obtain ⟨ql6, r17⟩ := and_e r16
  obtain ⟨u6, eu6⟩ := exa_v qe6
  have S6 : Sta s s.heap "com/example/strict_attest/strictattest/evidence/arm/SecurityLifecycle" "DECOMMISSIONED" "Lcom/example/strict_attest/strictattest/evidence/arm/SecurityLifecycle;" (.ref u6) := Sta.start eu6 (Or.inr ⟨hw _ (wd 2 rfl), hw _ (wd 22 rfl)⟩)
  have el6 := elemRef ql6 ev eu6 Av.1
  obtain ⟨qe7, r18⟩ := and_e r17
  obtain ⟨ql7, r19⟩ := and_e r18
  obtain ⟨u7, eu7⟩ := exa_v qe7
  have S7 : Sta s s.heap "com/example/strict_attest/strictattest/evidence/arm/SecurityLifecycle" "UNDEFINED" "Lcom/example/strict_attest/strictattest/evidence/arm/SecurityLifecycle;" (.ref u7) := Sta.start eu7 (Or.inr ⟨hw _ (wd 2 rfl), hw _ (wd 23 rfl)⟩)
  have el7 := elemRef ql7 ev eu7 Av.1
  obtain ⟨qf0, r20⟩ := and_e r19
  obtain ⟨qo0, r21⟩ := and_e r20
  obtain ⟨qo4, r22⟩ := and_e r21
  obtain ⟨qo5, r23⟩ := and_e r22
  obtain ⟨qf1, r24⟩ := and_e r23
  obtain ⟨qo1, r25⟩ := and_e r24
  obtain ⟨qf2, r26⟩ := and_e r25
  obtain ⟨qf3, r27⟩ := and_e r26
  obtain ⟨qf4, r28⟩ := and_e r27
  obtain ⟨qf5, r29⟩ := and_e r28
  obtain ⟨qf6, r30⟩ := and_e r29
  obtain ⟨qf7, r31⟩ := and_e r30
  obtain ⟨qo7, r32⟩ := and_e r31
  obtain ⟨qo2, r33⟩ := and_e r32
  obtain ⟨qo3, r34⟩ := and_e r33
  have qo6 := r34
  have hsz : cv.slots.size = 8 := by have e := hl.1; have q := len_toInt (n := cv.slots.size) hl.2; rw [e] at q; have : (8 : Int32).toInt = 8 := rfl; omega
  have hsl : cv.slots = ([.ref u0, .ref u1, .ref u2, .ref u3, .ref u4, .ref u5, .ref u6, .ref u7] : List Value).toArray := slots8 hsz el0 el1 el2 el3 el4 el5 el6 el7
  have AV : AF s s.heap av (.object "com/example/strict_attest/strictattest/evidence/arm/SecurityLifecycle") [.ref u0, .ref u1, .ref u2, .ref u3, .ref u4, .ref u5, .ref u6, .ref u7] := ⟨cv, Av, hsl, (by show (8 : Nat) < 2 ^ 31; decide), FitC.start hfit Av⟩
  obtain ⟨n, o, h1, h2, h3, _, L, rfl, ⟨rfl, N⟩, hq⟩ := con_law l s _ hw s.heap.size s.heap (Nat.le_refl _) i0 i1 i2 av u0 u1 u2 u3 u4 u5 u6 u7 SV (Exa.start ev qE) AV (fldI qf0 eu0) (fldI qf1 eu1) (fldI qf2 eu2) (fldI qf3 eu3) (fldI qf4 eu4) (fldI qf5 eu5) (fldI qf6 eu6) (fldI qf7 eu7) S7 S4 S5 (Exa.start eu0 qe0) (Exa.start eu1 qe1) (Exa.start eu2 qe2) (Exa.start eu3 qe3) (Exa.start eu4 qe4) (Exa.start eu5 qe5) (Exa.start eu6 qe6) (Exa.start eu7 qe7) (fieldNe eu0 eu4 qo0 qo4 (by decide)) (fieldNe eu0 eu5 qo0 qo5 (by decide)) (fieldNe eu1 eu4 qo1 qo4 (by decide)) (fieldNe eu1 eu5 qo1 qo5 (by decide)) (fieldNe eu2 eu4 qo2 qo4 (by decide)) (fieldNe eu2 eu5 qo2 qo5 (by decide)) (fieldNe eu3 eu4 qo3 qo4 (by decide)) (fieldNe eu3 eu5 qo3 qo5 (by decide)) (fieldNe eu6 eu4 qo6 qo4 (by decide)) (fieldNe eu6 eu5 qo6 qo5 (by decide)) (fieldNe eu7 eu4 qo7 qo4 (by decide)) (fieldNe eu7 eu5 qo7 qo5 (by decide)) p e ha hc hk s m _ below hf ((Spec.applies_iff_loose hf).mp happ).1 ⟨rfl, State.Warmed39.refl s, rfl⟩ trivial
  refine ⟨n, _, h1, h2, h3, hpost _ _ _ _ _ _ ⟨Cond.after_iff.mpr rfl, Cond.after_iff.mpr (eq_i res_at (Term.int_eval (1)) rfl), trivial⟩ ⟨hq.1, hq.2.1, (hq.2.2.sift fun y hy => Or.inr (N y hy)).mono (by decide) (by decide)⟩⟩
theorem main_1_1 : Claimed_1_1 := comes_1 fun _ _ _ _ _ _ h hF => ⟨h.1, hF⟩
theorem main_1_2 : Claimed_1_2 := comes_1 fun _ _ _ _ _ _ h hF => ⟨h.2.1, hF⟩
end Jvm.Pilot.@@N@@
namespace Jvm.Pilot.@@N@@
open Jvm Jvm.ClassFile Sem Op Lib Jvm.Free Jvm.Stand Jvm.Pilot.@@N@@.Jvm.D
/-! MADE BY PROGRAM (witnessworld.py) out of the Statement's table words and the real class files: 13 classes; the members and pool entries that the words name. The judged class is class 1, her method 1. -/
namespace start1
open Jvm.ClassFile
def u (s : String) : CpInfo := .utf8 (stringToUtf16 s)
/-- a pool by its gaps: so many unusable entries, then the entry; so many at the end -/
def gap : Nat → List CpInfo → List CpInfo
  | 0, r => r
  | n + 1, r => .unusable :: gap n r
def poolList (es : List (Nat × CpInfo)) (last : Nat) : List CpInfo := es.foldr (fun e r => gap e.1 (e.2 :: r)) (gap last [])
def pool (es : List (Nat × CpInfo)) (last : Nat) : Array CpInfo := ⟨poolList es last⟩
def fileOf (pool : Array CpInfo) (this : Nat) (attrs : Array Attribute := #[]) (ms : Array MethodInfo := #[]) (fl : Nat := 33) (sup : Nat := 0) (ifs : Array Nat := #[]) (fds : Array FieldInfo := #[]) : ClassFile where
  minorVersion := 0
  majorVersion := 65
  constantPool := pool
  accessFlags := fl
  thisClass := this
  superClass := sup
  interfaces := ifs
  fields := fds
  methods := ms
  attributes := attrs
def plain (name : String) (sup : Option ClassId) : Class where
  name := name
  kind := .ordinary
  loader := none
  accessFlags := 33
  super := sup
  interfaces := #[]
  cf := none
  fields := #[]
  methods := #[]
  instanceTypes := #[]
  staticTypes := #[]
  resolved := #[]
  callSites := []
  init := .initialized
  statics := none
  mirror := none

def pool0 : Array CpInfo := pool [(5, u "<init>"), (0, u "()V"), (1, .class_ 10), (1, u "java/lang/Object"), (85, u "clone"), (0, u "()Ljava/lang/Object;")] 26

def k0m0 : Method := { name := "<init>", desc := "()V", sig := { parameters := [], returnType := none }, accessFlags := 1, code := none }
def k0m1 : Method := { name := "clone", desc := "()Ljava/lang/Object;", sig := { parameters := [], returnType := some (.object "java/lang/Object") }, accessFlags := 260, code := none }
/-- java/lang/Object -/
def k0 : Class := { plain "java/lang/Object" none with
  accessFlags := 33
  interfaces := #[]
  cf := some (fileOf pool0 8 #[] #[{ accessFlags := 1, nameIndex := 5, descriptorIndex := 6, attributes := #[] }, { accessFlags := 260, nameIndex := 96, descriptorIndex := 97, attributes := #[] }] 33 0 #[] #[])
  fields := #[]
  methods := #[k0m0, k0m1]
  instanceTypes := #[]
  staticTypes := #[]
  resolved := Array.replicate 124 none
  statics := none }

def pool1 : Array CpInfo := pool [(2, .class_ 4), (1, u "java/lang/Object"), (0, u "<init>"), (0, u "()V"), (0, .methodref 8 9), (0, .class_ 10), (0, .nameAndType 11 12), (0, u "com/example/strict_attest/strictattest/evidence/arm/SecurityLifecycle"), (0, u "of"), (0, u "(I)Lcom/example/strict_attest/strictattest/evidence/arm/SecurityLifecycle;"), (0, .methodref 8 14), (0, .nameAndType 15 16), (0, u "debug"), (0, u "()Z"), (0, .class_ 18), (0, u "com/example/strict_attest/strictattest/evidence/arm/SecurityLifecycleDebugPinLaw"), (2, u "law"), (0, u "(III)Z")] 3

def k1m0 : Method := { name := "<init>", desc := "()V", sig := { parameters := [], returnType := none }, accessFlags := 1, code := none }
def k1c1 : Code := { maxStack := 3, maxLocals := 6, code := code, exceptionTable := #[], attributes := #[] }
def k1m1 : Method := { name := "law", desc := "(III)Z", sig := { parameters := [.int, .int, .int], returnType := some .boolean }, accessFlags := 9, code := some k1c1 }
/-- com/example/strict_attest/strictattest/evidence/arm/SecurityLifecycleDebugPinLaw -/
def k1 : Class := { plain "com/example/strict_attest/strictattest/evidence/arm/SecurityLifecycleDebugPinLaw" (some 0) with
  accessFlags := 49
  interfaces := #[]
  cf := some (fileOf pool1 17 #[] #[{ accessFlags := 1, nameIndex := 5, descriptorIndex := 6, attributes := #[] }, { accessFlags := 9, nameIndex := 21, descriptorIndex := 22, attributes := #[] }] 49 2 #[] #[])
  fields := #[]
  methods := #[k1m0, k1m1]
  instanceTypes := #[]
  staticTypes := #[]
  resolved := Array.replicate 26 none
  statics := none }

def pool2 : Array CpInfo := pool [(1, .class_ 2), (0, u "java/lang/constant/Constable"), (0, .class_ 4), (0, u "java/lang/Object")] 6

/-- java/lang/constant/Constable -/
def k2 : Class := { plain "java/lang/constant/Constable" (some 0) with
  accessFlags := 1537
  interfaces := #[]
  cf := some (fileOf pool2 1 #[] #[] 1537 3 #[] #[])
  fields := #[]
  methods := #[]
  instanceTypes := #[]
  staticTypes := #[]
  resolved := Array.replicate 11 none
  statics := none }

def pool3 : Array CpInfo := pool [(1, .class_ 2), (0, u "java/lang/Comparable"), (0, .class_ 4), (0, u "java/lang/Object")] 7

/-- java/lang/Comparable -/
def k3 : Class := { plain "java/lang/Comparable" (some 0) with
  accessFlags := 1537
  interfaces := #[]
  cf := some (fileOf pool3 1 #[] #[] 1537 3 #[] #[])
  fields := #[]
  methods := #[]
  instanceTypes := #[]
  staticTypes := #[]
  resolved := Array.replicate 12 none
  statics := none }

def pool4 : Array CpInfo := pool [(1, .class_ 2), (0, u "java/io/Serializable"), (0, .class_ 4), (0, u "java/lang/Object")] 2

/-- java/io/Serializable -/
def k4 : Class := { plain "java/io/Serializable" (some 0) with
  accessFlags := 1537
  interfaces := #[]
  cf := some (fileOf pool4 1 #[] #[] 1537 3 #[] #[])
  fields := #[]
  methods := #[]
  instanceTypes := #[]
  staticTypes := #[]
  resolved := Array.replicate 7 none
  statics := none }

def pool5 : Array CpInfo := pool [(2, .class_ 4), (1, u "java/lang/Enum"), (0, u "name"), (0, u "Ljava/lang/String;"), (2, u "ordinal"), (0, u "I"), (1, .class_ 14), (1, u "java/lang/Object"), (4, u "hash"), (86, .class_ 108), (1, u "java/lang/Enum$EnumDesc"), (2, .class_ 112), (0, u "java/lang/constant/Constable"), (0, .class_ 114), (0, u "java/lang/Comparable"), (0, .class_ 116), (0, u "java/io/Serializable")] 87

/-- java/lang/Enum -/
def k5 : Class := { plain "java/lang/Enum" (some 0) with
  accessFlags := 1057
  interfaces := #[2, 3, 4]
  cf := some (fileOf pool5 2 #[.nestMembers #[106]] #[] 1057 12 #[111, 113, 115] #[{ accessFlags := 18, nameIndex := 5, descriptorIndex := 6, attributes := #[] }, { accessFlags := 18, nameIndex := 9, descriptorIndex := 10, attributes := #[] }, { accessFlags := 2, nameIndex := 19, descriptorIndex := 10, attributes := #[] }])
  fields := #[{ name := "name", type := (.object "java/lang/String"), accessFlags := 18, slot := 0, constantValue := 0 }, { name := "ordinal", type := .int, accessFlags := 18, slot := 1, constantValue := 0 }, { name := "hash", type := .int, accessFlags := 2, slot := 2, constantValue := 0 }]
  methods := #[]
  instanceTypes := #[(.object "java/lang/String"), .int, .int]
  staticTypes := #[]
  resolved := Array.replicate 204 none
  statics := none }

def pool6 : Array CpInfo := pool [(1, .class_ 2), (0, u "com/example/strict_attest/strictattest/evidence/arm/SecurityLifecycle"), (2, u "UNKNOWN"), (0, u "Lcom/example/strict_attest/strictattest/evidence/arm/SecurityLifecycle;"), (2, u "ASSEMBLY_AND_TEST"), (2, u "PSA_ROT_PROVISIONING"), (2, u "SECURED"), (0, .fieldref 1 17), (0, .nameAndType 18 6), (0, u "NON_PSA_ROT_DEBUG"), (0, .fieldref 1 20), (0, .nameAndType 21 6), (0, u "RECOVERABLE_PSA_ROT_DEBUG"), (2, u "DECOMMISSIONED"), (0, .fieldref 1 26), (0, .nameAndType 27 6), (0, u "UNDEFINED"), (0, .fieldref 1 29), (0, .nameAndType 30 31), (0, u "$VALUES"), (0, u "[Lcom/example/strict_attest/strictattest/evidence/arm/SecurityLifecycle;"), (0, .methodref 33 34), (0, .class_ 31), (0, .nameAndType 35 36), (0, u "clone"), (0, u "()Ljava/lang/Object;"), (1, .class_ 40), (1, u "java/lang/Enum"), (6, .fieldref 1 48), (0, .nameAndType 49 50), (0, u "upperByte"), (0, u "I"), (2, u "wireName"), (0, u "Ljava/lang/String;"), (2, .methodref 1 58), (0, .nameAndType 59 60), (0, u "values"), (0, u "()[Lcom/example/strict_attest/strictattest/evidence/arm/SecurityLifecycle;"), (36, u "of"), (0, u "(I)Lcom/example/strict_attest/strictattest/evidence/arm/SecurityLifecycle;"), (2, u "debug"), (0, u "()Z")] 5

def k6c0 : Code := { maxStack := 1, maxLocals := 0, code := prog_72_method_1_code, exceptionTable := #[], attributes := #[] }
def k6m0 : Method := { name := "values", desc := "()[Lcom/example/strict_attest/strictattest/evidence/arm/SecurityLifecycle;", sig := { parameters := [], returnType := some (.array (.object "com/example/strict_attest/strictattest/evidence/arm/SecurityLifecycle")) }, accessFlags := 9, code := some k6c0 }
def k6c1 : Code := { maxStack := 2, maxLocals := 6, code := prog_72_method_4_code, exceptionTable := #[], attributes := #[] }
def k6m1 : Method := { name := "of", desc := "(I)Lcom/example/strict_attest/strictattest/evidence/arm/SecurityLifecycle;", sig := { parameters := [.int], returnType := some (.object "com/example/strict_attest/strictattest/evidence/arm/SecurityLifecycle") }, accessFlags := 9, code := some k6c1 }
def k6c2 : Code := { maxStack := 2, maxLocals := 1, code := prog_72_method_6_code, exceptionTable := #[], attributes := #[] }
def k6m2 : Method := { name := "debug", desc := "()Z", sig := { parameters := [], returnType := some .boolean }, accessFlags := 1, code := some k6c2 }
/-- com/example/strict_attest/strictattest/evidence/arm/SecurityLifecycle -/
def k6 : Class := { plain "com/example/strict_attest/strictattest/evidence/arm/SecurityLifecycle" (some 5) with
  accessFlags := 16433
  interfaces := #[]
  cf := some (fileOf pool6 1 #[] #[{ accessFlags := 9, nameIndex := 59, descriptorIndex := 60, attributes := #[] }, { accessFlags := 9, nameIndex := 97, descriptorIndex := 98, attributes := #[] }, { accessFlags := 1, nameIndex := 101, descriptorIndex := 102, attributes := #[] }] 16433 38 #[] #[{ accessFlags := 16409, nameIndex := 5, descriptorIndex := 6, attributes := #[] }, { accessFlags := 16409, nameIndex := 9, descriptorIndex := 6, attributes := #[] }, { accessFlags := 16409, nameIndex := 12, descriptorIndex := 6, attributes := #[] }, { accessFlags := 16409, nameIndex := 15, descriptorIndex := 6, attributes := #[] }, { accessFlags := 16409, nameIndex := 18, descriptorIndex := 6, attributes := #[] }, { accessFlags := 16409, nameIndex := 21, descriptorIndex := 6, attributes := #[] }, { accessFlags := 16409, nameIndex := 24, descriptorIndex := 6, attributes := #[] }, { accessFlags := 16409, nameIndex := 27, descriptorIndex := 6, attributes := #[] }, { accessFlags := 18, nameIndex := 49, descriptorIndex := 50, attributes := #[] }, { accessFlags := 18, nameIndex := 53, descriptorIndex := 54, attributes := #[] }, { accessFlags := 4122, nameIndex := 30, descriptorIndex := 31, attributes := #[] }])
  fields := #[{ name := "UNKNOWN", type := (.object "com/example/strict_attest/strictattest/evidence/arm/SecurityLifecycle"), accessFlags := 16409, slot := 0, constantValue := 0 }, { name := "ASSEMBLY_AND_TEST", type := (.object "com/example/strict_attest/strictattest/evidence/arm/SecurityLifecycle"), accessFlags := 16409, slot := 1, constantValue := 0 }, { name := "PSA_ROT_PROVISIONING", type := (.object "com/example/strict_attest/strictattest/evidence/arm/SecurityLifecycle"), accessFlags := 16409, slot := 2, constantValue := 0 }, { name := "SECURED", type := (.object "com/example/strict_attest/strictattest/evidence/arm/SecurityLifecycle"), accessFlags := 16409, slot := 3, constantValue := 0 }, { name := "NON_PSA_ROT_DEBUG", type := (.object "com/example/strict_attest/strictattest/evidence/arm/SecurityLifecycle"), accessFlags := 16409, slot := 4, constantValue := 0 }, { name := "RECOVERABLE_PSA_ROT_DEBUG", type := (.object "com/example/strict_attest/strictattest/evidence/arm/SecurityLifecycle"), accessFlags := 16409, slot := 5, constantValue := 0 }, { name := "DECOMMISSIONED", type := (.object "com/example/strict_attest/strictattest/evidence/arm/SecurityLifecycle"), accessFlags := 16409, slot := 6, constantValue := 0 }, { name := "UNDEFINED", type := (.object "com/example/strict_attest/strictattest/evidence/arm/SecurityLifecycle"), accessFlags := 16409, slot := 7, constantValue := 0 }, { name := "upperByte", type := .int, accessFlags := 18, slot := 3, constantValue := 0 }, { name := "wireName", type := (.object "java/lang/String"), accessFlags := 18, slot := 4, constantValue := 0 }, { name := "$VALUES", type := (.array (.object "com/example/strict_attest/strictattest/evidence/arm/SecurityLifecycle")), accessFlags := 4122, slot := 8, constantValue := 0 }]
  methods := #[k6m0, k6m1, k6m2]
  instanceTypes := #[(.object "java/lang/String"), .int, .int, .int, (.object "java/lang/String")]
  staticTypes := #[(.object "com/example/strict_attest/strictattest/evidence/arm/SecurityLifecycle"), (.object "com/example/strict_attest/strictattest/evidence/arm/SecurityLifecycle"), (.object "com/example/strict_attest/strictattest/evidence/arm/SecurityLifecycle"), (.object "com/example/strict_attest/strictattest/evidence/arm/SecurityLifecycle"), (.object "com/example/strict_attest/strictattest/evidence/arm/SecurityLifecycle"), (.object "com/example/strict_attest/strictattest/evidence/arm/SecurityLifecycle"), (.object "com/example/strict_attest/strictattest/evidence/arm/SecurityLifecycle"), (.object "com/example/strict_attest/strictattest/evidence/arm/SecurityLifecycle"), (.array (.object "com/example/strict_attest/strictattest/evidence/arm/SecurityLifecycle"))]
  resolved := Array.replicate 108 none
  statics := some 0 }

def pool7 : Array CpInfo := pool [(1, .class_ 2), (0, u "java/lang/Cloneable"), (0, .class_ 4), (0, u "java/lang/Object")] 2

/-- java/lang/Cloneable -/
def k7 : Class := { plain "java/lang/Cloneable" (some 0) with
  accessFlags := 1537
  interfaces := #[]
  cf := some (fileOf pool7 1 #[] #[] 1537 3 #[] #[])
  fields := #[]
  methods := #[]
  instanceTypes := #[]
  staticTypes := #[]
  resolved := Array.replicate 7 none
  statics := none }

/-- the primitive byte -/
def k8 : Class := { plain "byte" none with kind := .primitive 'B', accessFlags := 0x411 }
/-- [B -/
def k9 : Class := { plain "[B" (some 0) with kind := .array 8 .byte, interfaces := #[7, 4], accessFlags := 1041 }

/-- the primitive int -/
def k10 : Class := { plain "int" none with kind := .primitive 'I', accessFlags := 0x411 }
/-- [I -/
def k11 : Class := { plain "[I" (some 0) with kind := .array 10 .int, interfaces := #[7, 4], accessFlags := 1041 }

/-- [Lcom/example/strict_attest/strictattest/evidence/arm/SecurityLifecycle; -/
def k12 : Class := { plain "[Lcom/example/strict_attest/strictattest/evidence/arm/SecurityLifecycle;" (some 0) with kind := .array 6 (.object "com/example/strict_attest/strictattest/evidence/arm/SecurityLifecycle"), interfaces := #[7, 4], accessFlags := 1041 }

def heap : Heap := #[{ cls := 6, slots := #[.ref 2, .ref 3, .ref 4, .ref 5, .ref 6, .ref 7, .ref 8, .ref 9, .ref 1], vm := .statics 6 },
  { cls := 12, slots := #[.ref 2, .ref 3, .ref 4, .ref 5, .ref 6, .ref 7, .ref 8, .ref 9], vm := .none },
  { cls := 6, slots := #[.null, .int 0, .int 0, .int 0, .null], vm := .none },
  { cls := 6, slots := #[.null, .int 1, .int 0, .int 16, .null], vm := .none },
  { cls := 6, slots := #[.null, .int 2, .int 0, .int 32, .null], vm := .none },
  { cls := 6, slots := #[.null, .int 3, .int 0, .int 48, .null], vm := .none },
  { cls := 6, slots := #[.null, .int 4, .int 0, .int 64, .null], vm := .none },
  { cls := 6, slots := #[.null, .int 5, .int 0, .int 80, .null], vm := .none },
  { cls := 6, slots := #[.null, .int 6, .int 0, .int 96, .null], vm := .none },
  { cls := 6, slots := #[.null, .int 7, .int 0, .int (-1), .null], vm := .none }]
def classes : Array Class := #[k0, k1, k2, k3, k4, k5, k6, k7, k8, k9, k10, k11, k12]
def interned : List (Array UInt16 × Addr) := []
def slotsUsed : Nat := 57
def theMethod : MethodId := ⟨1, 1⟩
def args0 : Array Value := #[.int 3, .int 2, .int 5]
def aboutOver (below : List Frame) : State where
  vm := { classes := classes, interned := interned.toArray }
  heap := heap
  slotsUsed := slotsUsed
  threads := #[{ frames := .invoking theMethod args0 :: below }]
def below0 : List Frame := [.native { method := ⟨0, 0⟩, args := #[] }]
def about1 : State := aboutOver below0
def p0 : Program := .bare "" "" ""
def e0 : Env := launch0.env 0 0 0
theorem w_frames : about1.frames = Frame.invoking theMethod args0 :: below0 := rfl
set_option maxRecDepth 65536 in
theorem w_args : argsFit about1.vm theMethod args0 = true := by decide +kernel
set_option maxRecDepth 65536 in
theorem w_heap : heapFits about1 = true := by decide +kernel
set_option maxRecDepth 65536 in
theorem w_runnable : about1.curStatus? = some .runnable := by decide +kernel
set_option maxRecDepth 65536 in
theorem w_alone : about1.alone = true := by decide +kernel
set_option maxRecDepth 65536 in
theorem w_named : about1.methodNamed? x = some theMethod := by decide +kernel
set_option maxRecDepth 65536 in
theorem w_hears : about1.hears theMethod below0 = true := by decide +kernel
set_option maxRecDepth 65536 in
theorem w_ripe : about1.ripe theMethod args0 below0 = true := by decide +kernel
theorem w_running : about1.status = .running := rfl
set_option maxRecDepth 65536 in
theorem w_room : about1.hasRoom e0.platform room_1 = true :=
  launch0.hasRoom_least _ room_1 (by decide +kernel) (by decide +kernel) (by decide +kernel) (by decide +kernel) (by decide +kernel) (by decide +kernel)
theorem allAtoms_all (ts : List Jvm.Cond) (a : Array Jvm.Value) (st : Jvm.State) : (allAtoms ts).before a st = ts.all (fun c => c.before a st) := by
  induction ts with
  | nil => rfl
  | cons c t ih =>
    show (Jvm.Cond.and c (allAtoms t)).before a st = _
    rw [Jvm.Cond.before_and, ih, List.all_cons]
def words1 : List Jvm.Cond := Jvm.Cond.code x code maxLocals ret :: tables_1
/-- a 'code' word, met by the world's own term for the bytes: nothing is compared byte by byte -/
theorem code_word {y : MethodName} {bytes : ByteArray} {mx : Nat} {rt : Option FieldType} {a : Array Value} {s : State} {m : MethodId} {meth : Method} {c : Code} (h1 : s.methodNamed? y = some m) (h2 : s.vm.method? m = some meth) (h3 : meth.code = some c) (h4 : c.code = bytes)
    (h5 : (c.maxLocals == mx && c.exceptionTable.isEmpty && decide (c.maxStack ≤ mostOperands) && decide (meth.sig.returnType = rt) && !meth.locks && decide (parseMethodDescriptor y.desc = some meth.sig)) = true) : (Jvm.Cond.code y bytes mx rt).before a s = true := by
  simp only [Bool.and_eq_true, beq_iff_eq, Bool.not_eq_true', decide_eq_true_eq] at h5
  obtain ⟨⟨⟨⟨⟨g1, g2⟩, g3⟩, g4⟩, g5⟩, g6⟩ := h5
  simp [Cond.before, Cond.holds, Cond.value, h1, h2, h3, h4, g1, g2, g3, g4, g5, g6]
def isCode : Jvm.Cond → Bool
  | .code _ _ _ _ => true
  | _ => false
theorem all_split {L : List Jvm.Cond} {P : Jvm.Cond → Bool} (h1 : L.all (fun c => isCode c || P c) = true) (h2 : ∀ c ∈ L.filter isCode, P c = true) : L.all P = true := by
  refine List.all_eq_true.mpr fun c hc => ?_
  have h := List.all_eq_true.mp h1 c hc
  rcases Bool.eq_false_or_eq_true (isCode c) with hi | hi
  · exact h2 c (List.mem_filter.mpr ⟨hc, hi⟩)
  · simpa [hi] using h
set_option maxRecDepth 65536 in
theorem w_c0 : (Jvm.Cond.code x code maxLocals ret).before args0 about1 = true := code_word (m := ⟨1, 1⟩) (meth := k1m1) (c := k1c1) (by decide +kernel) rfl rfl rfl (by decide +kernel)
set_option maxRecDepth 65536 in
theorem w_c1 : (Jvm.Cond.code ({ cls := "com/example/strict_attest/strictattest/evidence/arm/SecurityLifecycle", name := "of", desc := "(I)Lcom/example/strict_attest/strictattest/evidence/arm/SecurityLifecycle;" } : Jvm.MethodName) prog_72_method_4_code (6 : Nat) (Option.some (Jvm.ClassFile.FieldType.object "com/example/strict_attest/strictattest/evidence/arm/SecurityLifecycle"))).before args0 about1 = true := code_word (m := ⟨6, 1⟩) (meth := k6m1) (c := k6c1) (by decide +kernel) rfl rfl rfl (by decide +kernel)
set_option maxRecDepth 65536 in
theorem w_c2 : (Jvm.Cond.code ({ cls := "com/example/strict_attest/strictattest/evidence/arm/SecurityLifecycle", name := "values", desc := "()[Lcom/example/strict_attest/strictattest/evidence/arm/SecurityLifecycle;" } : Jvm.MethodName) prog_72_method_1_code (0 : Nat) (Option.some (Jvm.ClassFile.FieldType.array (Jvm.ClassFile.FieldType.object "com/example/strict_attest/strictattest/evidence/arm/SecurityLifecycle")))).before args0 about1 = true := code_word (m := ⟨6, 0⟩) (meth := k6m0) (c := k6c0) (by decide +kernel) rfl rfl rfl (by decide +kernel)
set_option maxRecDepth 65536 in
theorem w_c3 : (Jvm.Cond.code ({ cls := "com/example/strict_attest/strictattest/evidence/arm/SecurityLifecycle", name := "debug", desc := "()Z" } : Jvm.MethodName) prog_72_method_6_code (1 : Nat) (Option.some Jvm.ClassFile.FieldType.boolean)).before args0 about1 = true := code_word (m := ⟨6, 2⟩) (meth := k6m2) (c := k6c2) (by decide +kernel) rfl rfl rfl (by decide +kernel)
def codes1 : List Jvm.Cond := [Jvm.Cond.code x code maxLocals ret, Jvm.Cond.code ({ cls := "com/example/strict_attest/strictattest/evidence/arm/SecurityLifecycle", name := "of", desc := "(I)Lcom/example/strict_attest/strictattest/evidence/arm/SecurityLifecycle;" } : Jvm.MethodName) prog_72_method_4_code (6 : Nat) (Option.some (Jvm.ClassFile.FieldType.object "com/example/strict_attest/strictattest/evidence/arm/SecurityLifecycle")), Jvm.Cond.code ({ cls := "com/example/strict_attest/strictattest/evidence/arm/SecurityLifecycle", name := "values", desc := "()[Lcom/example/strict_attest/strictattest/evidence/arm/SecurityLifecycle;" } : Jvm.MethodName) prog_72_method_1_code (0 : Nat) (Option.some (Jvm.ClassFile.FieldType.array (Jvm.ClassFile.FieldType.object "com/example/strict_attest/strictattest/evidence/arm/SecurityLifecycle"))), Jvm.Cond.code ({ cls := "com/example/strict_attest/strictattest/evidence/arm/SecurityLifecycle", name := "debug", desc := "()Z" } : Jvm.MethodName) prog_72_method_6_code (1 : Nat) (Option.some Jvm.ClassFile.FieldType.boolean)]
set_option maxRecDepth 65536 in
theorem codes_eq : words1.filter isCode = codes1 := rfl
theorem w_codes : ∀ c ∈ words1.filter isCode, c.before args0 about1 = true := by
  rw [codes_eq]
  intro c hc
  simp only [codes1, List.mem_cons, List.not_mem_nil, or_false] at hc
  rcases hc with rfl | rfl | rfl | rfl
  · exact w_c0
  · exact w_c1
  · exact w_c2
  · exact w_c3
set_option maxRecDepth 65536 in
theorem w_t1 : (words1.take 24).all (fun c => isCode c || c.before args0 about1) = true := by decide +kernel
set_option maxRecDepth 65536 in
theorem w_t2 : (words1.drop 24).all (fun c => isCode c || c.before args0 about1) = true := by decide +kernel
theorem w_tables : (allAtoms (Jvm.Cond.code x code maxLocals ret :: tables_1)).before args0 about1 = true := by
  rw [allAtoms_all]
  show words1.all (fun c => c.before args0 about1) = true
  refine all_split ?_ w_codes
  rw [← List.take_append_drop 24 words1, List.all_append, w_t1, w_t2]
  rfl
set_option maxRecDepth 65536 in
theorem w_case : (Jvm.Cond.and given_1 narrow_1).before args0 about1 = true := by decide +kernel
theorem w_applies : (headSpec (Jvm.Cond.code x code maxLocals ret :: tables_1) room_1).applies x e0.platform about1 = true :=
  (Spec.applies_iff w_frames).mpr ⟨w_running, w_runnable, w_alone, w_named, w_hears, w_ripe, w_room, w_tables⟩
theorem atStart : AtStart classFile x code maxLocals ret World_1 tables_1 room_1 Calls_1 rest_1 Pre_1 launch0 p0 e0 about1 theMethod args0 below0 :=
  ⟨lists_1, trivial, launch0.admits_env _ _ _, launch0.least_env, fairChoices_fair.cas, fairChoices_fair.clock, w_frames, w_args, w_heap, w_applies, trivial, trivial, w_case⟩
end start1
theorem witness_1 : WitnessClaimed_1 := ⟨start1.p0, start1.e0, start1.about1, start1.theMethod, start1.args0, start1.below0, start1.atStart⟩
end Jvm.Pilot.@@N@@
