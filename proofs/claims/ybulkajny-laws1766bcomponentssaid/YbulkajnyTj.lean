namespace Go.Proofs.Ybulkajny

/-- The state of Tarjan's walk; the lists bear their last element first. -/
structure TS where
  idx : Nat → Nat
  low : Nat → Nat
  on : Nat → Bool
  ctr : Nat
  calls : List (Nat × Nat)
  stk : List Nat
  seen : List Nat
  found : List (List Nat)

def ud {α : Type} (f : Nat → α) (i : Nat) (x : α) : Nat → α := fun j => if j = i then x else f j
theorem ud_eq {α : Type} {f : Nat → α} {i : Nat} {x : α} : ud f i x i = x := if_pos rfl
theorem ud_ne {α : Type} {f : Nat → α} {i j : Nat} {x : α} (h : j ≠ i) : ud f i x j = f j := if_neg h

/-- A node is opened. -/
def openN (s : TS) (v : Nat) : TS :=
  { s with ctr := s.ctr + 1, idx := ud s.idx v (s.ctr + 1), low := ud s.low v (s.ctr + 1), on := ud s.on v true, stk := v :: s.stk, seen := v :: s.seen, calls := (v, 0) :: s.calls }

/-- The nodes down to v are taken from the stack. -/
def above (v : Nat) : List Nat → List Nat
  | [] => []
  | x :: xs => if x = v then [x] else x :: above v xs
def under (v : Nat) : List Nat → List Nat
  | [] => []
  | x :: xs => if x = v then xs else under v xs
def offAll (f : Nat → Bool) (l : List Nat) : Nat → Bool := fun j => if j ∈ l then false else f j
def compOf (n v : Nat) (stk : List Nat) : List Nat := (above v stk).filter (fun x => decide (x < n))
def sortN (l : List Nat) : List Nat := l.mergeSort (fun x y => decide (x ≤ y))

def popN (n : Nat) (s : TS) (v : Nat) : TS :=
  { s with on := offAll s.on (above v s.stk), stk := under v s.stk,
           found := if 2 ≤ (compOf n v s.stk).length then sortN (compOf n v s.stk) :: s.found else s.found }

/-- The frame of v is given up: its low goes to the frame below. -/
def lowUp (s : TS) (v : Nat) : List (Nat × Nat) → Nat → Nat
  | [] => s.low
  | (u, _) :: _ => ud s.low u (min (s.low u) (s.low v))

/-- One round of the inner loop. -/
def step (n : Nat) (succ : Nat → List Nat) (s : TS) : TS :=
  match s.calls with
  | [] => s
  | (v, i) :: cs =>
    match (succ v)[i]? with
    | some u =>
      if s.idx u = 0 then openN { s with calls := (v, i + 1) :: cs } u
      else if s.on u = true then { s with calls := (v, i + 1) :: cs, low := ud s.low v (min (s.low v) (s.idx u)) }
      else { s with calls := (v, i + 1) :: cs }
    | none =>
      if lowUp s v cs v = s.idx v then popN n { s with calls := cs, low := lowUp s v cs } v
      else { s with calls := cs, low := lowUp s v cs }

end Go.Proofs.Ybulkajny
