/-
  What applicationAVPs must give, as data; AVPs that read so.
-/
import Derived.Test.YbulkaptmDoorFrom
import Derived.Test.YbulkaptmDoorLocks
import Derived.Maps.OwnOps
import Derived.Maps.Views
namespace Go.Proofs.YbulkaptmDoor
open Go.RowKit Go.Maps
set_option linter.unusedVariables false
set_option maxRecDepth 100000

/-- A connection's box and its server's box, the lock free. -/
structure SrvM (w : World) (c s : Nat) (host realm prod : ByteArray) (st lo port : Int) (z : Addr) (apps : Value) : Prop where
  cb : ∃ cc, w.heap[c]? = some (.cells cc 117 (0, 0)) ∧ cc[0]? = some (.pointer (some ⟨s, 0, none⟩)) ∧ cc[3]? = some (.int .u64 0) ∧ cc[4]? = some (.int .u64 lo) ∧ cc[5]? = some (.pointer (some z)) ∧ cc[6]? = some (.int .u16 port)
  sb : ∃ sc, w.heap[s]? = some (.cells sc 88 (0, 0)) ∧ sc[0]? = some (.string host) ∧ sc[1]? = some (.string realm) ∧ sc[2]? = some (.string prod) ∧ sc[10]? = some (.int .u32 st) ∧ sc[17]? = some apps ∧ sc[14]? = some (.int .i32 0)
theorem SrvM.of_blocks {w w' : World} {c s : Nat} {host realm prod : ByteArray} {st lo port : Int} {z : Addr} {apps : Value} (h : SrvM w c s host realm prod st lo port z apps)
    (hk : ∀ (k : Nat) (cs : Array Value) (t : TypeId) (f : Nat × Nat), w.heap[k]? = some (Obj.cells cs t f) → (t = 117 ∨ t = 88) → w'.heap[k]? = some (Obj.cells cs t f)) : SrvM w' c s host realm prod st lo port z apps := by
  obtain ⟨⟨cc, h1, h2⟩, ⟨sc, h3, h4⟩⟩ := h
  exact ⟨⟨cc, hk _ _ _ _ h1 (.inl rfl), h2⟩, ⟨sc, hk _ _ _ _ h3 (.inr rfl), h4⟩⟩
theorem SrvM.grow {w w' : World} {c s : Nat} {host realm prod : ByteArray} {st lo port : Int} {z : Addr} {apps : Value} (h : SrvM w c s host realm prod st lo port z apps) (hg : w.grownBy w' none) : SrvM w' c s host realm prod st lo port z apps :=
  h.of_blocks (fun k cs t f hk _ => gblockN hg hk)
theorem SrvM.srv {w : World} {c s : Nat} {host realm prod : ByteArray} {st lo port : Int} {z : Addr} {apps : Value} (h : SrvM w c s host realm prod st lo port z apps) : Srv w c s host realm prod st lo port z apps := by
  obtain ⟨h1, ⟨sc, h3, h4, h5, h6, h7, h8, _⟩⟩ := h
  exact ⟨h1, ⟨sc, h3, h4, h5, h6, h7, h8⟩⟩

/-- An AVP's code, and its number where it is one of Uint32's. -/
abbrev Sp := Int × Option Int
def AvOk (w : World) (a : Av) (s : Sp) : Prop := a.code = s.1 ∧ ∀ v, s.2 = some v → a.dl = 4 ∧ U8s w a.da 4 (be32 v)
def AvsOk (w : World) : List Av → List Sp → Prop
  | [], [] => True
  | a :: r, s :: t => AvOk w a s ∧ AvsOk w r t
  | _, _ => False
theorem AvOk.mono {w w' : World} {a : Av} {s : Sp} (h : AvOk w a s) (hk : ∀ da dl bs, U8s w da dl bs → U8s w' da dl bs) : AvOk w' a s :=
  ⟨h.1, fun v hv => ⟨(h.2 v hv).1, hk _ _ _ (h.2 v hv).2⟩⟩
theorem AvsOk.mono {w w' : World} (hk : ∀ da dl bs, U8s w da dl bs → U8s w' da dl bs) : ∀ {avs : List Av} {ss : List Sp}, AvsOk w avs ss → AvsOk w' avs ss
  | [], [], _ => trivial
  | a :: r, s :: t, h => ⟨h.1.mono hk, AvsOk.mono hk h.2⟩
  | [], _ :: _, h => h.elim
  | _ :: _, [], h => h.elim
theorem AvsOk.append {w : World} : ∀ {a b : List Av} {s t : List Sp}, AvsOk w a s → AvsOk w b t → AvsOk w (a ++ b) (s ++ t)
  | [], b, [], t, _, h => h
  | x :: r, b, y :: u, t, h, h2 => ⟨h.1, AvsOk.append h.2 h2⟩
  | [], _, _ :: _, _, h, _ => h.elim
  | _ :: _, _, [], _, h, _ => h.elim
theorem AvsOk.len {w : World} : ∀ {a : List Av} {s : List Sp}, AvsOk w a s → a.length = s.length
  | [], [], _ => rfl
  | x :: r, y :: u, h => by simp [AvsOk.len h.2]
  | [], _ :: _, h => h.elim
  | _ :: _, [], h => h.elim
theorem AvsOk.get {w : World} : ∀ {a : List Av} {s : List Sp}, AvsOk w a s → ∀ i (h : i < a.length) (h' : i < s.length), AvOk w a[i] s[i]
  | [], [], _, i, h, _ => by simp at h
  | x :: r, y :: u, h, 0, _, _ => h.1
  | x :: r, y :: u, h, i + 1, h1, h2 => AvsOk.get h.2 i (by simpa using h1) (by simpa using h2)
  | [], _ :: _, h, _, _, _ => h.elim
  | _ :: _, [], h, _, _, _ => h.elim

/-- The vendors that are not 0, each once, in the order in which they come up first. -/
def seen (vends : List Int) : Nat → List Int
  | 0 => []
  | k + 1 => if vends.getD k 0 ≠ 0 ∧ vends.getD k 0 ∉ seen vends k then seen vends k ++ [vends.getD k 0] else seen vends k
def sp1 (vends : List Int) (k : Nat) : List Sp := (seen vends k).map fun v => (265, some v)
def sp2 (ids vends : List Int) : Nat → List Sp
  | 0 => []
  | k + 1 => sp2 ids vends k ++ [if vends.getD k 0 = 0 then (258, some (ids.getD k 0)) else (260, none)]
theorem seen_le (vends : List Int) : ∀ k, (seen vends k).length ≤ k
  | 0 => Nat.le_refl _
  | k + 1 => by
    have := seen_le vends k
    unfold seen
    split
    · simp; omega
    · omega
theorem sp1_le (vends : List Int) (k : Nat) : (sp1 vends k).length ≤ k := by simpa [sp1] using seen_le vends k
theorem sp2_len (ids vends : List Int) : ∀ k, (sp2 ids vends k).length = k
  | 0 => rfl
  | k + 1 => by simp [sp2, sp2_len ids vends k]
theorem sp1_new {vends : List Int} {k : Nat} (h0 : vends.getD k 0 ≠ 0) (h : vends.getD k 0 ∉ seen vends k) : sp1 vends (k + 1) = sp1 vends k ++ [(265, some (vends.getD k 0))] := by
  unfold sp1
  rw [seen, if_pos ⟨h0, h⟩]
  simp
theorem seen_new {vends : List Int} {k : Nat} (h0 : vends.getD k 0 ≠ 0) (h : vends.getD k 0 ∉ seen vends k) : seen vends (k + 1) = seen vends k ++ [vends.getD k 0] := by rw [seen, if_pos ⟨h0, h⟩]
theorem seen_old {vends : List Int} {k : Nat} (h : vends.getD k 0 = 0 ∨ vends.getD k 0 ∈ seen vends k) : seen vends (k + 1) = seen vends k := by
  rw [seen, if_neg]
  rintro ⟨h1, h2⟩
  rcases h with h | h
  · exact h1 h
  · exact h2 h
theorem sp1_old {vends : List Int} {k : Nat} (h : vends.getD k 0 = 0 ∨ vends.getD k 0 ∈ seen vends k) : sp1 vends (k + 1) = sp1 vends k := by
  unfold sp1
  rw [seen_old h]

/-- The map holds the numbers of the list, and no others. -/
def MapIs (D : DataW Unit) (l : List Int) : Prop := IsMap D ∧ ∀ u : Int, D.atKey (.int .u32 u) (.lit (.bool false)) = .lit (.bool (decide (u ∈ l)))
theorem mapIs_nil : MapIs (.map []) [] := ⟨isMap_empty, fun u => rfl⟩
theorem MapIs.put {D : DataW Unit} {l : List Int} (h : MapIs D l) (v : Int) : MapIs (D.put (.int .u32 v) (.lit (.bool true))) (l ++ [v]) := by
  refine ⟨?_, fun u => ?_⟩
  · obtain ⟨⟨es, rfl⟩, _⟩ := h
    exact ⟨_, rfl⟩
  · by_cases e : u = v
    · subst e
      rw [atKey_put_same h.1 (show WideAt.IsKeyLit (.int .u32 u) from trivial)]
      simp
    · rw [atKey_put_other (by intro h'; cases h'; exact e rfl), h.2 u]
      simp [e]
end Go.Proofs.YbulkaptmDoor
