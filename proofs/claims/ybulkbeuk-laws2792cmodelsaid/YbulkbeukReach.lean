/- The plain law of the C model: which texts the user reaches; the search and the rounds both find just these. -/
import Derived.Test.YbulkbeukOpen
namespace Go.Proofs.Ybulkbeuk.Adm
open Go.Proofs.Ybulkbeuk.MapF
set_option linter.unusedSimpArgs false
set_option linter.unusedVariables false

theorem bytes_ext {a b : ByteArray} (h : a.data.toList = b.data.toList) : a = b := by
  cases a
  cases b
  simp only [ByteArray.mk.injEq]
  exact Array.toList_inj.1 h
theorem key_eq {a b : ByteArray} : (a.data.toList == b.data.toList) = decide (a = b) := by
  by_cases h : a = b
  · subst h
    simp
  · have : ¬ a.data.toList = b.data.toList := fun e => h (bytes_ext e)
    rw [decide_eq_false h]
    exact beq_eq_false_iff_ne.2 this
theorem inL_iff (rs : List ByteArray) (s : ByteArray) : inL rs s = true ↔ s ∈ rs := by
  unfold inL same
  rw [List.any_eq_true]
  constructor
  · rintro ⟨x, hx, h⟩
    rw [ByteArray.toList_eq, ByteArray.toList_eq, key_eq] at h
    have : x = s := by simpa using h
    subst this
    exact hx
  · intro h
    exact ⟨s, h, by simp⟩

/-- S holds of the user and of all to whom an edge leads from one of S -/
def Closed (es : List (ByteArray × ByteArray)) (user : ByteArray) (S : ByteArray → Prop) : Prop := S user ∧ ∀ e ∈ es, S e.1 → e.2.size ≤ 63 → S e.2
def Reach (es : List (ByteArray × ByteArray)) (user s : ByteArray) : Prop := ∀ S, Closed es user S → S s
theorem Reach.root (es : List (ByteArray × ByteArray)) (user : ByteArray) : Reach es user user := fun _ h => h.1
theorem Reach.step {es : List (ByteArray × ByteArray)} {user : ByteArray} {e : ByteArray × ByteArray} (he : e ∈ es) (h : Reach es user e.1) (hs : e.2.size ≤ 63) : Reach es user e.2 := fun S hS => hS.2 e he (h S hS) hs

/-- the texts to which edges lead from l -/
def groups (es : List (ByteArray × ByteArray)) (l : List UInt8) : List ByteArray := (es.filter (fun e => e.1.data.toList == l)).map (·.2)
theorem mem_groups {es : List (ByteArray × ByteArray)} {a p : ByteArray} : p ∈ groups es a.data.toList ↔ (a, p) ∈ es := by
  unfold groups
  simp only [List.mem_map, List.mem_filter, key_eq, decide_eq_true_eq]
  constructor
  · rintro ⟨⟨x, y⟩, ⟨h1, rfl⟩, rfl⟩
    exact h1
  · intro h
    exact ⟨(a, p), ⟨h, rfl⟩, rfl⟩
theorem groups_length (es : List (ByteArray × ByteArray)) (l : List UInt8) : (groups es l).length ≤ es.length := by
  unfold groups
  rw [List.length_map]
  exact List.length_filter_le _ _

theorem nodup_le {α : Type} [DecidableEq α] : ∀ (A B : List α), A.Nodup → (∀ a ∈ A, a ∈ B) → A.length ≤ B.length := by
  intro A
  induction A with
  | nil => intro B _ _; simp
  | cons x r ih =>
    intro B hn hs
    have hx : x ∈ B := hs x (List.mem_cons_self)
    obtain ⟨h1, h2⟩ := List.nodup_cons.1 hn
    have := ih (B.erase x) h2 (fun a ha => by
      have hne : a ≠ x := by
        intro e
        subst e
        exact h1 ha
      exact (List.mem_erase_of_ne hne).2 (hs a (List.mem_cons_of_mem _ ha)))
    rw [List.length_erase_of_mem hx] at this
    have hpos : 0 < B.length := List.length_pos_of_mem hx
    simp only [List.length_cons]
    omega

/-- what both ways of finding keep: A holds the user, no text twice, none that is not reached -/
structure Found (es : List (ByteArray × ByteArray)) (user : ByteArray) (A : List ByteArray) : Prop where
  root : user ∈ A
  nodup : A.Nodup
  sub : ∀ a ∈ A, a ∈ user :: es.map (·.2)
  reach : ∀ a ∈ A, Reach es user a
theorem Found.start (es : List (ByteArray × ByteArray)) (user : ByteArray) : Found es user [user] :=
  ⟨by simp, by simp, fun a h => by rw [List.mem_singleton.1 h]; exact List.mem_cons_self, fun a h => by rw [List.mem_singleton.1 h]; exact Reach.root _ _⟩
theorem Found.bound {es : List (ByteArray × ByteArray)} {user : ByteArray} {A : List ByteArray} (h : Found es user A) : A.length ≤ es.length + 1 := by
  have := nodup_le A (user :: es.map (·.2)) h.nodup h.sub
  simpa using this
theorem Found.push {es : List (ByteArray × ByteArray)} {user : ByteArray} {A : List ByteArray} (h : Found es user A) {a p : ByteArray} (ha : a ∈ A) (he : (a, p) ∈ es) (hs : p.size ≤ 63) (hp : ¬ p ∈ A) : Found es user (A ++ [p]) := by
  refine ⟨List.mem_append_left _ h.root, ?_, fun x hx => ?_, fun x hx => ?_⟩
  · rw [List.nodup_append]
    refine ⟨h.nodup, by simp, ?_⟩
    intro x hx y hy
    rw [List.mem_singleton.1 hy]
    intro e
    subst e
    exact hp hx
  · rcases List.mem_append.1 hx with hx | hx
    · exact h.sub x hx
    · rw [List.mem_singleton.1 hx]
      exact List.mem_cons_of_mem _ (List.mem_map.2 ⟨_, he, rfl⟩)
  · rcases List.mem_append.1 hx with hx | hx
    · exact h.reach x hx
    · rw [List.mem_singleton.1 hx]
      exact Reach.step (e := (a, p)) he (h.reach a ha) hs
theorem Found.all {es : List (ByteArray × ByteArray)} {user : ByteArray} {A : List ByteArray} (h : Found es user A) (hc : ∀ e ∈ es, e.1 ∈ A → e.2.size ≤ 63 → e.2 ∈ A) (s : ByteArray) : s ∈ A ↔ Reach es user s :=
  ⟨h.reach s, fun hr => hr (fun x => x ∈ A) ⟨h.root, hc⟩⟩

/-- the search: A: what is marked, T: what is still to do -/
structure Dfs (es : List (ByteArray × ByteArray)) (user : ByteArray) (A T : List ByteArray) : Prop where
  found : Found es user A
  tin : ∀ t ∈ T, t ∈ A
  done : ∀ a ∈ A, a ∈ T ∨ ∀ p, (a, p) ∈ es → p.size ≤ 63 → p ∈ A
theorem Dfs.start (es : List (ByteArray × ByteArray)) (user : ByteArray) : Dfs es user [user] [user] := ⟨Found.start es user, fun _ h => h, fun _ h => .inl h⟩
theorem Dfs.finish {es : List (ByteArray × ByteArray)} {user : ByteArray} {A : List ByteArray} (h : Dfs es user A []) (s : ByteArray) : s ∈ A ↔ Reach es user s :=
  h.found.all (fun e he ha hs => by
    rcases h.done e.1 ha with h | h
    · cases h
    · exact h e.2 he hs) s

/-- .. while the texts behind 'last' are gone through: k of them are done -/
structure DfsIn (es : List (ByteArray × ByteArray)) (user last : ByteArray) (k : Nat) (A T : List ByteArray) : Prop where
  found : Found es user A
  tin : ∀ t ∈ T, t ∈ A
  lin : last ∈ A
  done : ∀ a ∈ A, a = last ∨ a ∈ T ∨ ∀ p, (a, p) ∈ es → p.size ≤ 63 → p ∈ A
  part : ∀ i, i < k → ∀ p, (groups es last.data.toList)[i]? = some p → p.size ≤ 63 → p ∈ A
theorem Dfs.pop {es : List (ByteArray × ByteArray)} {user last : ByteArray} {A T : List ByteArray} (h : Dfs es user A (T ++ [last])) : DfsIn es user last 0 A T := by
  refine ⟨h.found, fun t ht => h.tin t (List.mem_append_left _ ht), h.tin last (by simp), fun a ha => ?_, fun i hi => by omega⟩
  rcases h.done a ha with h | h
  · rcases List.mem_append.1 h with h | h
    · exact .inr (.inl h)
    · exact .inl (List.mem_singleton.1 h)
  · exact .inr (.inr h)
theorem DfsIn.skip {es : List (ByteArray × ByteArray)} {user last p : ByteArray} {k : Nat} {A T : List ByteArray} (h : DfsIn es user last k A T) (hp : (groups es last.data.toList)[k]? = some p) (hs : p.size ≤ 63 → p ∈ A) : DfsIn es user last (k + 1) A T := by
  refine ⟨h.found, h.tin, h.lin, h.done, fun i hi q hq hqs => ?_⟩
  by_cases hik : i = k
  · subst hik
    rw [hp] at hq
    cases hq
    exact hs hqs
  · exact h.part i (by omega) q hq hqs
theorem DfsIn.push {es : List (ByteArray × ByteArray)} {user last p : ByteArray} {k : Nat} {A T : List ByteArray} (h : DfsIn es user last k A T) (hp : (groups es last.data.toList)[k]? = some p) (hs : p.size ≤ 63) (hn : ¬ p ∈ A) : DfsIn es user last (k + 1) (A ++ [p]) (T ++ [p]) := by
  have he : (last, p) ∈ es := mem_groups.1 (List.mem_of_getElem? hp)
  refine ⟨h.found.push h.lin he hs hn, fun t ht => ?_, List.mem_append_left _ h.lin, fun a ha => ?_, fun i hi q hq hqs => ?_⟩
  · rcases List.mem_append.1 ht with ht | ht
    · exact List.mem_append_left _ (h.tin t ht)
    · exact List.mem_append_right _ ht
  · rcases List.mem_append.1 ha with ha | ha
    · rcases h.done a ha with h | h | h
      · exact .inl h
      · exact .inr (.inl (List.mem_append_left _ h))
      · exact .inr (.inr fun q hq hqs => List.mem_append_left _ (h q hq hqs))
    · exact .inr (.inl (List.mem_append_right _ ha))
  · by_cases hik : i = k
    · subst hik
      rw [hp] at hq
      cases hq
      simp
    · exact List.mem_append_left _ (h.part i (by omega) q hq hqs)
theorem DfsIn.finish {es : List (ByteArray × ByteArray)} {user last : ByteArray} {k : Nat} {A T : List ByteArray} (h : DfsIn es user last k A T) (hk : (groups es last.data.toList).length ≤ k) : Dfs es user A T := by
  refine ⟨h.found, h.tin, fun a ha => ?_⟩
  rcases h.done a ha with rfl | h' | h'
  · refine .inr fun p hp hs => ?_
    have hm := mem_groups.2 hp
    obtain ⟨i, hi, he⟩ := List.getElem_of_mem hm
    exact h.part i (by omega) p (by rw [List.getElem?_eq_getElem hi, he]) hs
  · exact .inl h'
  · exact .inr h'

/-- the rounds: ch: whether this round has added; r: how many rounds have added before it -/
structure Fix (es : List (ByteArray × ByteArray)) (user : ByteArray) (r k : Nat) (ch : Bool) (A : List ByteArray) : Prop where
  found : Found es user A
  grown : r + 1 + (if ch then 1 else 0) ≤ A.length
  part : ch = false → ∀ i, i < k → ∀ e, es[i]? = some e → e.1 ∈ A → e.2.size ≤ 63 → e.2 ∈ A
theorem Fix.start (es : List (ByteArray × ByteArray)) (user : ByteArray) : Fix es user 0 0 false [user] := ⟨Found.start es user, by simp, fun _ i hi => by omega⟩
theorem Fix.skip {es : List (ByteArray × ByteArray)} {user : ByteArray} {r k : Nat} {ch : Bool} {A : List ByteArray} (h : Fix es user r k ch A) {e : ByteArray × ByteArray} (he : es[k]? = some e) (hs : e.1 ∈ A → e.2.size ≤ 63 → e.2 ∈ A) : Fix es user r (k + 1) ch A := by
  refine ⟨h.found, h.grown, fun hc i hi x hx => ?_⟩
  by_cases hik : i = k
  · subst hik
    rw [he] at hx
    cases hx
    exact hs
  · exact h.part hc i (by omega) x hx
theorem Fix.push {es : List (ByteArray × ByteArray)} {user : ByteArray} {r k : Nat} {ch : Bool} {A : List ByteArray} (h : Fix es user r k ch A) {e : ByteArray × ByteArray} (he : es[k]? = some e) (h1 : e.1 ∈ A) (h2 : e.2.size ≤ 63) (h3 : ¬ e.2 ∈ A) : Fix es user r (k + 1) true (A ++ [e.2]) := by
  refine ⟨h.found.push (a := e.1) h1 (List.mem_of_getElem? he) h2 h3, ?_, fun hc => by cases hc⟩
  have := h.grown
  simp only [List.length_append, List.length_cons, List.length_nil, if_true]
  split at this <;> omega
theorem Fix.again {es : List (ByteArray × ByteArray)} {user : ByteArray} {r k : Nat} {A : List ByteArray} (h : Fix es user r k true A) : Fix es user (r + 1) 0 false A := by
  refine ⟨h.found, ?_, fun _ i hi => by omega⟩
  have := h.grown
  simp at this ⊢
  omega
theorem Fix.rounds {es : List (ByteArray × ByteArray)} {user : ByteArray} {r k : Nat} {ch : Bool} {A : List ByteArray} (h : Fix es user r k ch A) : r ≤ es.length := by
  have h1 := h.found.bound
  have h2 := h.grown
  omega
theorem Fix.finish {es : List (ByteArray × ByteArray)} {user : ByteArray} {r k : Nat} {A : List ByteArray} (h : Fix es user r k false A) (hk : es.length ≤ k) (s : ByteArray) : s ∈ A ↔ Reach es user s :=
  h.found.all (fun e he => by
    obtain ⟨i, hi, hx⟩ := List.getElem_of_mem he
    exact h.part rfl i (by omega) e (by rw [List.getElem?_eq_getElem hi, hx])) s

/-- the map that marks the texts of A -/
def memb (A : List ByteArray) : List UInt8 → Value := fun l => .bool (A.any (fun x => x.data.toList == l))
theorem memb_nil : memb [] = fun _ => .bool false := by
  funext l
  simp [memb]
theorem memb_push (A : List ByteArray) (x : ByteArray) : upd (memb A) x.data.toList (.bool true) = memb (A ++ [x]) := by
  funext l
  unfold upd memb
  by_cases hl : l = x.data.toList
  · subst hl
    simp
  · have : (x.data.toList == l) = false := by simpa using fun e => hl e.symm
    simp [hl, this]
theorem memb_val (A : List ByteArray) (s : ByteArray) : memb A s.data.toList = .bool (inL A s) := by
  unfold memb inL same
  congr 2
  funext x
  rw [ByteArray.toList_eq, ByteArray.toList_eq]
end Go.Proofs.Ybulkbeuk.Adm
